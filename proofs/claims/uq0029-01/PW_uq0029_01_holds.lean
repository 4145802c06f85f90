import PyProof.Rows.All
import Wide.All
import OpenK.AllK
import Wide.FinOn
import PySem.Challenge.RW_uq0029_01
set_option maxRecDepth 100000
set_option Elab.async false
set_option linter.unusedVariables false
set_option maxHeartbeats 4000000
namespace Mine
noncomputable section
section
open PySem PySem.W
noncomputable def Ux(T:BT)(m a:Nat):Option Obj:=match Nat.blt a m with
 |true=>match T.get a with
  |some o=>alive o
  |none=>none
 |false=>none
noncomputable def ev(den:Code→Sem Fin)(prog:Program)(P:Params):Nat→Ctx→Pos→Sem Fin→BT→Nat→Nat→Option (Result×BT×Nat×Nat)
 |0,_,_,_,_,_,_=>none
 |n+1,Γ,p,t,T,m,k=>match t with
  | .pure fin=>match fin with
    | .done f=>some (.ok f,T,m,k)
    | .again c=>match c.quiet with
      |true=>ev den prog P n (Γ.goto c) p (den c) T m k
      |false=>none
  | .raise e=>some (.error e,T,m,k)
  | .rule _ κ=>ev den prog P n Γ p (κ ()) T m k
  | .at q κ=>ev den prog P n Γ q (κ ()) T m k
  | .point _ κ=>ev den prog P n Γ p (κ ()) T m k
  | .ask κ=>ev den prog P n Γ p (κ ⟨prog,P⟩) T m k
  | .load a _ κ=>match Ux T m a with
    |some o=>ev den prog P n Γ p (κ o) T m k
    |none=>none
  | .loadIfAlive a κ=>match Ux T m a with
    |some o=>ev den prog P n Γ p (κ (some o)) T m k
    |none=>none
  | .update a _ f κ=>match Ux T m a with
    |some _=>ev den prog P n Γ p (κ ()) (T.set a f) m k
    |none=>none
  | .alloc o κ=>match((T.ins m o).get m).isSome with
    |true=>ev den prog P n Γ p (κ m) (T.ins m o) (m+1) k
    |false=>none
  | .fresh κ=>ev den prog P n Γ p (κ k) T m (k+1)
  | .handled own κ=>ev den prog P n Γ p (κ (match own with |true=>Γ.own |false=>Γ.handled)) T m k
  | .stack κ=>ev den prog P n Γ p (κ ((Γ.code,p)::Γ.below)) T m k
  | .call c h _ _ κ=>match ev den prog P n (Γ.enter c h p) p (den c) T m k with
    |some r=>ev den prog P n Γ p (κ r.1) r.2.1 r.2.2.1 r.2.2.2
    |none=>none
  |_=>none
theorem Ui{T:BT}{m a:Nat}{life:Life}{o:Obj}(h:Ux T m a=some o):(absHeap T m life).get? a=some o∧∃o',T.get a=some o':=by
 unfold Ux at h
 cases hb:Nat.blt a m with
 |false=>rw[hb]at h;cases h
 |true=>
  rw[hb]at h
  cases hg:T.get a with
  |none=>rw[hg]at h;cases h
  |some o'=>
   rw[hg]at h
   exact⟨(abs_get (Nat.le_of_ble_eq_true hb) hg).trans h,o',rfl⟩
theorem obn{α β:Type}{o:Option α}{f:α→Option β}{r:β}(h:(match o with |some x=>f x |none=>none)=some r):∃x,o=some x∧f x=some r:=by
 cases o with
 |none=>cases h
 |some x=>exact⟨x,rfl,h⟩
theorem bbn{β:Type}{b:Bool}{x:Option β}{r:β}(h:(match b with |true=>x |false=>none)=some r):b=true∧x=some r:=by
 cases b with
 |false=>cases h
 |true=>exact⟨rfl,h⟩
theorem someE{α:Type}{a b:α}(h:some a=some b):a=b:=by injection h
section
variable(den:Code→Sem Fin)(prog:Program)(w:World)(life:Life)(gens:Array GenState)(drawn:Drawn)(os:OsState)
noncomputable def atE(T:BT)(m k:Nat):Shared:=⟨absHeap T m life,gens,drawn,k,os⟩
set_option smartUnfolding false in
theorem YC:∀(n:Nat) (Γ:Ctx) (p:Pos) (t:Sem Fin) (T:BT) (m k:Nat) (r:Result) (T':BT) (m' k':Nat),ev den prog w.params n Γ p t T m k=some (r,T',m',k')→
 Runs ⟨den,prog,w⟩ Γ p t [] (atE life gens drawn os T m k) (.ret r) (atE life gens drawn os T' m' k')
 |0,_,_,_,_,_,_,_,_,_,_,h=>by cases h
 |n+1,Γ,p,t,T,m,k,r,T',m',k',h=>by
  cases t with
  |pure fin=>
   cases fin with
   |done f=>
    cases someE h
    exact .done
   |again c=>
    obtain⟨hq,h⟩:=bbn (b:=c.quiet) (x:=ev den prog w.params n (Γ.goto c) p (den c) T m k) h
    exact .again hq (YC n _ _ _ _ _ _ _ _ _ _ h)
  |raise e=>
   cases someE h
   exact .raise
  |rule tag κ=>exact .rule (YC n _ _ _ _ _ _ _ _ _ _ h)
  | «at» q κ=>exact .at (YC n _ _ _ _ _ _ _ _ _ _ h)
  |point l κ=>exact .point (YC n _ _ _ _ _ _ _ _ _ _ h)
  |ask κ=>exact .ask (YC n _ _ _ _ _ _ _ _ _ _ h)
  |load a q κ=>
   obtain⟨o,hl,h⟩:=obn (o:=Ux T m a) (f:=fun o=>ev den prog w.params n Γ p (κ o) T m k) h
   exact .load (Ui hl).1 (YC n _ _ _ _ _ _ _ _ _ _ h)
  |loadIfAlive a κ=>
   obtain⟨o,hl,h⟩:=obn (o:=Ux T m a) (f:=fun o=>ev den prog w.params n Γ p (κ (some o)) T m k) h
   refine .loadIfAlive ?_
   rw[show(atE life gens drawn os T m k).heap.get? a=some o from(Ui hl).1]
   exact YC n _ _ _ _ _ _ _ _ _ _ h
  |update a q f κ=>
   obtain⟨o,hl,h⟩:=obn (o:=Ux T m a) (f:=fun _=>ev den prog w.params n Γ p (κ ()) (T.set a f) m k) h
   obtain⟨h1,o',h2⟩:=Ui (life:=life) hl
   refine .update (by show((absHeap T m life).get? a).isSome=true;rw[h1];rfl) ?_
   have:=YC n _ _ _ _ _ _ _ _ _ _ h
   unfold atE at this ⊢
   rw[absHeap_set h2]at this
   exact this
  |alloc o κ=>
   obtain⟨hl,h⟩:=bbn (b:=((T.ins m o).get m).isSome) (x:=ev den prog w.params n Γ p (κ m) (T.ins m o) (m+1) k) h
   refine .alloc ?_
   have:=YC n _ _ _ _ _ _ _ _ _ _ h
   unfold atE at this ⊢
   rw[absHeap_ins hl]at this
   show Runs _ _ _ (κ (absHeap T m life).objs.size) _ _ _ _
   rw[absHeap_size]
   exact this
  |fresh κ=>exact .fresh (YC n _ _ _ _ _ _ _ _ _ _ h)
  |handled own κ=>
   refine .handled ?_
   have:=YC n _ _ _ _ _ _ _ _ _ _ h
   cases own<;>exact this
  |stack κ=>exact .stack (YC n _ _ _ _ _ _ _ _ _ _ h)
  |call c hd g l κ=>
   obtain⟨x,he,h⟩:=obn (o:=ev den prog w.params n (Γ.enter c hd p) p (den c) T m k) (f:=fun r=>ev den prog w.params n Γ p (κ r.1) r.2.1 r.2.2.1 r.2.2.2) h
   exact .call (YC n _ _ _ _ _ _ _ _ _ _ he) (YC n _ _ _ _ _ _ _ _ _ _ h)
  |_=>cases h
theorem ev_wp{α:Type}{n:Nat}{Γ:Ctx}{p:Pos}{x:Sem α}{enc:α→Flow}{T:BT}{m k:Nat}{f:Flow}{T':BT}{m' k':Nat}
(h:ev den prog w.params n Γ p (x.bind fun a=>.pure (.done (enc a))) T m k=some (.ok f,T',m',k')):
 Sem.wp ⟨den,prog,w⟩ Γ x (fun a _ s'=>enc a=f∧s'=atE life gens drawn os T' m' k') (fun _ _ _=>False) p (atE life gens drawn os T m k):=by
 have hr:=YC den prog w life gens drawn os _ _ _ _ _ _ _ _ _ _ _ h
 have hw:=(Sem.wp_iff_runs ⟨den,prog,w⟩ Γ _ (fun r s'=>r= .ok f∧s'=atE life gens drawn os T' m' k') p _).mpr ⟨_,_,hr,rfl,rfl⟩
 rw[Sem.wp_bind]at hw
 refine Sem.wp_mono _ _ _ (fun a p' s' h'=> ?_) (fun e p' s' h'=> ?_) _ _ hw
 ·rw[Sem.wp_pure]at h'
  obtain⟨h1,h2⟩:=h'
  exact⟨by injection h1,h2⟩
 ·cases h'.1
end
end
section
open PySem PySem.W PyProof.Rows PySem.Spec
theorem update_life(h:Heap)(a:Addr)(f:Obj→Obj):(h.update a f).life=h.life:=by cases h;rfl
theorem Ud{M:Model}{Γ:PySem.Ctx}{p:Pos}{t:Sem Fin}{fs:List Frame}{s s':Shared}{e:End}(h:Runs M Γ p t fs s e s'):s'.heap.life=s.heap.life:=by
 induction h<;>simp_all [update_life,Heap.life_push,Shared.setGen]
theorem wp_life{α:Type}{M:Model}{Γ:PySem.Ctx}(x:Sem α):∀{Q:α→Pos→Shared→Prop} {E:Value→Pos→Shared→Prop} {p:Pos} {s:Shared} (l:Life),Sem.wp M Γ x Q E p s→s.heap.life=l→
 Sem.wp M Γ x (fun a p' s'=>Q a p' s'∧s'.heap.life=l) E p s:=by
 induction x with
 |pure a=>intro Q E p s l h hl;simp only[Sem.wp]at h ⊢;exact⟨h,hl⟩
 |raise e=>intro Q E p s l h hl;simpa only[Sem.wp]using h
 |rule tag k ih=>intro Q E p s l h hl;simp only[Sem.wp]at h ⊢;exact ih () l h hl
 | «at» q k ih=>intro Q E p s l h hl;simp only[Sem.wp]at h ⊢;exact ih () l h hl
 |load a q k ih=>intro Q E p s l h hl;simp only[Sem.wp]at h ⊢;obtain⟨o,h1,h2⟩:=h;exact⟨o,h1,ih o l h2 hl⟩
 |update a q f k ih=>intro Q E p s l h hl;simp only[Sem.wp]at h ⊢;exact⟨h.1,ih () l h.2 (by rw[←hl];exact update_life ..)⟩
 |alloc o k ih=>intro Q E p s l h hl;simp only[Sem.wp]at h ⊢;exact ih _ l h (by rw[←hl];exact Heap.life_push ..)
 |loadIfAlive a k ih=>intro Q E p s l h hl;simp only[Sem.wp]at h ⊢;exact ih _ l h hl
 |point l' k ih=>intro Q E p s l h hl;simp only[Sem.wp]at h ⊢;exact ih () l h hl
 |fresh k ih=>intro Q E p s l h hl;simp only[Sem.wp]at h ⊢;exact ih _ l h hl
 |ask k ih=>intro Q E p s l h hl;simp only[Sem.wp]at h ⊢;exact ih _ l h hl
 |choose src n k ih=>intro Q E p s l h hl;simp only[Sem.wp]at h ⊢;exact⟨h.1,ih _ l h.2 hl⟩
 |os q l' k ih=>intro Q E p s l h hl;simp only[Sem.wp]at h ⊢;exact ih _ l h hl
 |call c hd g l' k ih=>
  intro Q E p s l h hl
  simp only[Sem.wp]at h ⊢
  obtain⟨r,s',hr,hw⟩:=h
  exact⟨r,s',hr,ih r l hw ((Ud hr).trans hl)⟩
 |handled own k ih=>intro Q E p s l h hl;simp only[Sem.wp]at h ⊢;exact ih _ l h hl
 |newGen c k ih=>intro Q E p s l h hl;simp only[Sem.wp]at h ⊢;exact ih _ l h hl
 |genState g k ih=>intro Q E p s l h hl;simp only[Sem.wp]at h ⊢;obtain⟨st,h1,h2⟩:=h;exact⟨st,h1,ih _ l h2 hl⟩
 |resume g r l' k ih=>
  intro Q E p s l h hl
  simp only[Sem.wp]at h ⊢
  obtain⟨res,s',h1,h2⟩:=h
  refine⟨res,s',h1,ih res l h2 ?_⟩
  unfold Wakes at h1
  split at h1
  ·exact h1.elim
  ·split at h1
   ·obtain⟨e₁,s₁,hr,_,_,rfl⟩:=h1;exact(Ud hr).trans hl
   ·rw[h1.2];exact hl
   ·rw[h1.2];exact hl
  ·obtain⟨e₁,s₁,hr,_,_,rfl⟩:=h1;exact(Ud hr).trans hl
  ·rw[h1.2];exact hl
  ·rw[h1.2];exact hl
 |stack k ih=>intro Q E p s l h hl;simp only[Sem.wp]at h ⊢;exact ih _ l h hl
 |thread k ih=>intro Q E p s l h hl;simp only[Sem.wp]at h ⊢;exact ih _ l h hl
 |_=>intro Q E p s l h hl;simp only[Sem.wp]at h
noncomputable def wpG{α:Type}(M:Model)(Γ:PySem.Ctx)(t:Sem α)(Q:α→Shared→Prop)(E:Value→Shared→Prop)(s:Shared):Prop:=
 ∀p,Sem.wp M Γ t (fun a _ s'=>Q a s') (fun e _ s'=>E e s') p s
section
variable{α β:Type}{M:Model}{Γ:PySem.Ctx}{E:Value→Shared→Prop}{s:Shared}
theorem wpG_of_any{A:Around}{t:Sem α}{Q:α→Shared→Prop}(h:wpAny M A t Q E s)(hΓ:Γ.In A):wpG M Γ t Q E s:=fun p=>h Γ p hΓ
theorem Yw{t:Sem α}{Q Q':α→Shared→Prop}{E':Value→Shared→Prop}(h:wpG M Γ t Q E s)(hQ:∀a s,Q a s→Q' a s)(hE:∀e s,E e s→E' e s):wpG M Γ t Q' E' s:=
 fun p=>Sem.wp_mono M Γ t (fun a _ s=>hQ a s) (fun e _ s=>hE e s) p s (h p)
theorem XG{m:Sem α}{f:α→Sem β}{Q:β→Shared→Prop}(h:wpG M Γ m (fun a s'=>wpG M Γ (f a) Q E s') E s):wpG M Γ (m >>= f) Q E s:=fun p=>by
 rw[Sem.wp_bind']
 exact Sem.wp_mono M Γ m (fun a p' s' h'=>h' p') (fun _ _ _ h'=>h') p s (h p)
theorem Zk{a:α}{Q:α→Shared→Prop}(h:Q a s):wpG M Γ (pure a) Q E s:=fun _=>h
theorem VP{pos:Pos}{Q:Unit→Shared→Prop}(h:Q () s):wpG M Γ (standAt pos) Q E s:=fun _=>h
theorem Jb{vs:List Value}{m:Sem α}{Q:α→Shared→Prop}(h:wpG M Γ m Q E s):wpG M Γ (holding vs m) Q E s:=fun p=>by rw[Sem.wp_holding];exact h p
theorem wpG_point{Q:Unit→Shared→Prop}(h:Q () s):wpG M Γ point Q E s:=fun _=>h
theorem wpG_life{t:Sem α}{Q:α→Shared→Prop}(h:wpG M Γ t (fun a s'=>s'.heap.life=s.heap.life→Q a s') E s):wpG M Γ t Q E s:=fun p=>
 Sem.wp_mono M Γ t (fun a p' s' h'=>h'.1 h'.2) (fun _ _ _ h'=>h') p s (wp_life t s.heap.life (h p) rfl)
theorem asgG{env:Env}{x:PySem.Str}{pos' pos:Pos}{value:PySem.Expr}{Q:Flow→Shared→Prop}(hs:swapsWith value (some (.Name x pos')) pos.line env=pure false)
(h:wpG M Γ (eval value env) (fun v s₁=>wpG M Γ ((do standAt pos';bindName env x v;pure Flow.next):Sem Flow) Q E s₁) E s):wpG M Γ (exec (.Assign [.Name x pos'] value pos) env) Q E s:=by
 rw[exec_Assign_Name env x pos' value pos hs]
 exact XG (VP (XG h))
theorem callG{env:Env}{f:PySem.Str}{np pos:Pos}{arg:PySem.Expr}{T:String}{Q:Value→Shared→Prop}(he:starEach [arg] env=[(false,eval arg env)])
(hf:wpG M Γ (eval (.Name f np) env) (fun v s₁=>v= .type T∧s₁=s) E s)
(h:wpG M Γ (eval arg env) (fun a s₁=>wpG M Γ (PySem.call (.type T) [a]) Q E s₁) E s):wpG M Γ (eval (.Call (.Name f np) [arg] [] pos) env) Q E s:=by
 show wpG M Γ (eval (.Name f np) env >>= fun f=>callWith pos f [] (backTo pos (starEach [arg] env)) (backToKw pos (keywordEach [] env))) Q E s
 refine XG (Yw hf ?_ fun _ _ x=>x)
 rintro v s₁ ⟨rfl,rfl⟩
 rw[he]
 show wpG M Γ (callWith pos (.type T) [] [(false,eval arg env)] []) Q E s₁
 unfold callWith
 refine XG (Jb ?_)
 unfold evalArgs
 show wpG M Γ (spliced [(false,eval arg env)] >>= _) _ E s₁
 refine XG ?_
 show wpG M Γ (eval arg env >>= _) _ E s₁
 refine XG (Yw h (fun a s₂ h₂=> ?_) fun _ _ x=>x)
 refine XG (Zk ?_)
 refine XG (Jb (Zk ?_))
 refine Zk ?_
 refine XG (Zk ?_)
 refine Jb ?_
 show wpG M Γ ((pure []:Sem (List Value)) >>= _) _ E s₂
 refine XG (Zk ?_)
 refine XG (Zk (Zk ?_))
 refine XG (VP ?_)
 refine XG (Zk ?_)
 exact XG (Yw h₂ (fun r s₃ h₃=>XG (Jb (wpG_point (Zk h₃)))) fun _ _ x=>x)
end
section
variable{prog:Program}{w:World}{A:Around}{E:Value→Shared→Prop}{s:Shared}
theorem list_end{it l:Addr}{i:Nat}{items}{Q:Option Value→Shared→Prop}(hh:A.handled=none)
(hit:s.heap.IsListIter it l i)(hl:s.heap.IsList l items)(hx:items[i]? =none)
(hQ:∀h',Heap.ExtBut it s.heap h'→h'.objs.size=s.heap.objs.size+2→Q none {s with heap:=h'}):wpAny (model prog w) A (pyNext (.ref it)) Q E s:=by
 obtain⟨o,ho,hc,hd⟩:=id hit
 obtain⟨ol,hol,_,nl,hdl⟩:=hl
 unfold pyNext
 refine wpAny_bind (wpAny_attempt (wpAny_callSpecial?_slot (name:=Str.ofString "__next__") hit.typeIs slot_listiter_next
  (wpAny_call_entry slot_listiter_next hit.typeIs entry_listiter_next ?_ (args_listiter_next _))))
 show wpAny _ _ (field (.ref it) 0 >>= _) _ _ s
 refine wpAny_bind (wpAny_field ho hd (x:=.ref l) rfl ?_)
 show wpAny _ _ (if(Value.ref l==Value.none)=true then _ else _) _ _ s
 rw[if_neg (show ¬((Value.ref l==Value.none)=true)from Bool.false_ne_true)]
 show wpAny _ _ (field (.ref it) 1 >>= _) _ _ s
 refine wpAny_bind (wpAny_field ho hd (x:=.int i 0) rfl ?_)
 show wpAny _ _ (seqItems? (.ref l) >>= _) _ _ s
 refine wpAny_bind (wpAny_seqItems hol hdl ?_)
 simp only[Int.toNat_natCast,hx]
 refine wpAny_bind (wpAny_rule (wpAny_bind (wpAny_setField ho hd (by simp) ?_)))
 show wpAny _ _ (newExc (.type "StopIteration") [] >>= _) _ _ _
 refine wpAny_bind ?_
 simp only[newExc,newTuple]
 refine wpAny_bind (wpAny_newObj_type ?_ (by size_fits))
 refine wpAny_bind (m:=firstArgMember _ _) (wpAny_of_eq (a:=Value.none) (by first |rfl | (simp only[firstArgMember];rfl)) ?_)
 refine wpAny_newObj_type ?_ (by size_fits)
 simp only[raiseNew]
 refine wpAny_bind (wpAny_handled ?_)
 rw[show A.in1.handled=none from hh]
 refine wpAny_bind (wpAny_pure (wpAny_throw ?_))
 refine wpAny_bind (wpAny_isInstance (T:="StopIteration") (b:=true) ⟨_,Heap.get?_push_size _ rfl,rfl⟩ isSubtype_stop ?_)
 refine wpAny_pure (hQ _ (((Heap.SameBut.update ..).extBut.push _).push _) ?_)
 simp only[Heap.size_push]
 rw[(Heap.SameBut.update s.heap it _).1]
theorem set_loop(hh:A.in1.handled=none){S I l:Addr}(hSI:S≠I)(hSl:S≠l)(hlI:l≠I){items:Array Value}{ns:List Int}(hi:IntsAre items.toList ns)(hb:items.size+1<scanBound){R:Result→Shared→Prop}:
 ∀(k i:Nat) (s:Shared),i+k=items.size→s.heap.IsListIter I l i→s.heap.IsList l items→
  s.heap.SetOf (intKind prog w) S (fun k'=>(firstMet (fun i=>ns.getD i 0) i).any (· ==k')) (firstMet (fun i=>ns.getD i 0) i).length→
  (∀h',(∀b o,b≠S→b≠I→s.heap.get? b=some o→h'.get? b=some o)→h'.objs.size=s.heap.objs.size+2→
    h'.SetOf (intKind prog w) S (fun k'=>(firstMet (fun i=>ns.getD i 0) items.size).any (· ==k')) (firstMet (fun i=>ns.getD i 0) items.size).length→
    R (.ok (.ret .none)) {s with heap:=h',toks:=s.toks+k})→
  codeAny (model prog w) A (.builtin "set.update.loop" ⟨[.ref S,.ref I],[]⟩) R s:=by
 intro k
 induction k with
 |zero=>
  intro i s hk hit hl hS hR
  obtain rfl:i=items.size:=hk
  refine codeAny_builtin F.entry_set_update_loop ?_
  rw[Around.under_plainId F.plain_set_update_loop _]
  show wpAny _ A.in1 (pyNext (.ref I) >>= _) _ _ s
  refine wpAny_bind (list_end hh hit hl (by simp) fun h' he hz=> ?_)
  show wpAny _ A.in1 (ret Value.none) _ _ _
  refine wpAny_pure (hR h' (fun b o h1 h2 e=>he b o h2 e) hz ?_)
  obtain⟨o,es,ep,t,ho,rest⟩:=hS
  exact⟨o,es,ep,t,he S _ hSI ho,rest⟩
 |succ k ih=>
  intro i s hk hit hl hS hR
  have hlt:i<items.size:=hk▸Nat.lt_add_of_pos_right (Nat.succ_pos k)
  refine codeAny_builtin F.entry_set_update_loop ?_
  rw[Around.under_plainId F.plain_set_update_loop _]
  show wpAny _ A.in1 (pyNext (.ref I) >>= _) _ _ s
  have hx:items[i]? =some items[i]:=Array.getElem?_eq_getElem hlt
  refine wpAny_bind (wpAny_pyNext_list_item hit hl hx fun h₁ hit₁ hs₁=> ?_)
  obtain⟨t,ht⟩:=IntsAre.int_at hi i items[i] (by rw[Array.getElem?_toList];exact hx)
  rw[ht]
  have hS':h₁.SetOf (intKind prog w) S (fun k'=>(firstMet (fun i=>ns.getD i 0) i).any (· ==k')) (firstMet (fun i=>ns.getD i 0) i).length:=by
   obtain⟨o,es,ep,tb,ho,rest⟩:=hS
   exact⟨o,es,ep,tb,(hs₁.2 S hSI).trans ho,rest⟩
  show wpAny _ A.in1 (holding [Value.int (ns.getD i 0) t] (setAdd S (.int (ns.getD i 0) t)) >>= _) _ _ _
  refine wpAny_bind (wpAny_holding ?_)
  unfold setAdd
  refine wpAny_holding ?_
  refine wpAny_bind ((intKind prog w).pyHash (k:=ns.getD i 0) (intKind_is _ _ _ _) ?_)
  have hroom:(firstMet (fun i=>ns.getD i 0) i).length+1<scanBound:=Nat.lt_of_le_of_lt (Nat.succ_le_succ (Nat.le_trans (firstMet_length_le _ i) (Nat.le_of_lt hlt))) hb
  refine wpAny_setAddHashed_of (knd:=intKind prog w) (s:={ {s with heap:=h₁}with toks:=s.toks+1}) (intKind_is _ _ _ _) rfl hS' hroom fun h₂ hs₂ hS₂=> ?_
  have hSi:h₂.SetOf (intKind prog w) S (fun k'=>(firstMet (fun i=>ns.getD i 0) (i+1)).any (· ==k')) (firstMet (fun i=>ns.getD i 0) (i+1)).length:=
   SetOf_congr hS₂ (fun k'=>by rw[firstMet_succ,step_any]) (by rw[firstMet_succ,step_length])
  refine wpAny_pure ⟨plainId_quiet F.plain_set_update_loop _,ih (i+1) _ ((Nat.succ_add_eq_add_succ i k).trans hk) (hit₁.extBut hs₂.extBut (Ne.symm hSI)) ((hl.extBut hs₁.extBut hlI).extBut hs₂.extBut (Ne.symm hSl)) hSi fun h' hk' hz hS''=> ?_⟩
  have e:s.toks+1+k=s.toks+(k+1):=Nat.succ_add_eq_add_succ s.toks k
  have:=hR h' (fun b o h1 h2 e=>hk' b o h1 h2 ((hs₂.2 b h1).trans ((hs₁.2 b h2).trans e))) (by rw[hz];show h₂.objs.size+2=_;rw[hs₂.1,hs₁.1]) hS''
  rw[←e]at this
  exact this
theorem type_call{T newId initId:String}{Bi:Builtin}{args:List Value}{Q Q₁:Value→Shared→Prop}(ft:TypeCalled T newId initId)
(hct:checkTypeCall T ⟨args,[]⟩=pure ())(entryI:entryFor table initId=some Bi)
(hnew:codeAny (model prog w) A.in1 (.call (.builtin newId) ⟨.type T::args,[]⟩) (wants Q₁ E) s)
(hnext:∀obj s₁,Q₁ obj s₁→s₁.TypeIs obj T∧(∀(Q:Unit→Shared→Prop) (E:Value→Shared→Prop),Q () s₁→wpAny (model prog w) A.in1.in1 (checkBuiltinCall initId ⟨obj::args,[]⟩) Q E s₁)∧
   wpAny (model prog w) A.in1.in1 (Bi ⟨obj::args,[]⟩)
    (fun fin s'=>match fin with | .done f=>wants (fun r s₂=>r= .none∧Q obj s₂) E (.ok f) s' | .again c'=>c'.quiet=true∧codeAny (model prog w) A.in1 c' (wants (fun r s₂=>r= .none∧Q obj s₂) E) s')
    (fun e s'=>wants (fun r s₂=>r= .none∧Q obj s₂) E (.error e) s') s₁):
 wpAny (model prog w) A (call (.type T) args) Q E s:=by
 obtain⟨c,tl,hmro⟩:=ft.mro
 have hmade:=ft.made
 have hsub:=ft.sub
 refine wpAny_call (codeAny_of_tree ?_)
 show wpAny _ _ (callAny (.type T) _) _ _ _
 refine wpAny_pure ⟨Code.quiet_builtin _ (by decide +kernel),codeAny_builtin PySem.F.entry_type_call ?_⟩
 rw[Around.under_plain (weight_type_call_type T args []) rfl]
 have h1:=ft.notType
 have h2:=ft.canCreate
 repeat (any_goals (first |assumption |wp_step))
 refine codeAny_mono hnew fun r s₁ hr=> ?_
 cases r with
 |error e=>exact hr
 |ok fl=>
  cases fl with
  |ret obj=>
   obtain⟨hT,hok,hsi⟩:=hnext _ _ hr
   have hli:=ft.init.lookup
   have hbi:=ft.init.bind obj
   repeat (any_goals (first |assumption |wp_step))
   refine codeAny_mono (codeAny_call_builtin ft.init.plain entryI (hok _ _ hsi)) fun r₂ s₂ hr₂=> ?_
   cases r₂ with
   |error e=>exact hr₂
   |ok fl₂=>
    cases fl₂ with
    |ret r=>
     obtain⟨rfl,hq⟩:=hr₂
     repeat (any_goals (first |assumption |wp_step))
    |_=>exact hr₂.elim
  |_=>exact hr.elim
set_option maxHeartbeats 3200000 in
theorem set_list{l:Addr}{items:Array Value}{ns:List Int}{Q:Value→Shared→Prop}
(hh:A.handled=none)(hl:s.heap.IsList l items)(hi:IntsAre items.toList ns)(hb:items.size+1<scanBound)
(h:∀h':Heap,h'.SetOf (intKind prog w) s.heap.objs.size (fun k'=>(firstMet (fun i=>ns.getD i 0) items.size).any (· ==k')) (firstMet (fun i=>ns.getD i 0) items.size).length→
   (∀b o,b<s.heap.objs.size→s.heap.get? b=some o→h'.get? b=some o)→h'.objs.size=s.heap.objs.size+4→Q (.ref s.heap.objs.size) {s with heap:=h',toks:=s.toks+items.size}):
 wpAny (model prog w) A (call (.type "set") [.ref l]) Q E s:=by
 refine type_call PySem.F.called_set (PySem.F.typeCall_set_1 (.ref l)) PySem.F.entry_set_init
  (code_set_new_1 (.ref l) (Q₁:=fun obj s₁=>∃led:Bool,obj= .ref s.heap.objs.size∧s₁={s with heap:=s.heap.push {cls:=.type "set",dict:=none,data:=.set #[] 0 (.fresh 0 0 led)}}) fun led=>⟨led,rfl,rfl⟩) ?_
 rintro _ _ ⟨led,rfl,rfl⟩
 have hS:(s.heap.push {cls:=.type "set",dict:=none,data:=.set #[] 0 (.fresh 0 0 led)}).get? s.heap.objs.size=some {cls:=.type "set",dict:=none,data:=.set #[] 0 (.fresh 0 0 led)}:=Heap.get?_push_size _ rfl
 have hT:Shared.TypeIs {s with heap:=s.heap.push {cls:=.type "set",dict:=none,data:=.set #[] 0 (.fresh 0 0 led)}} (.ref s.heap.objs.size) "set":=⟨_,hS,rfl⟩
 refine⟨hT,fun Q E hQ=>check_set_init_1 hT hQ,?_⟩
 obtain⟨ol,hol,hcl,nl,hdl⟩:=hl
 obtain⟨ocls,odict,odata,oslots⟩:=ol
 simp only at hcl hdl
 subst hcl;subst hdl
 have hol':(s.heap.push {cls:=.type "set",dict:=none,data:=.set #[] 0 (.fresh 0 0 led)}).get? l=some {cls:=.type "list",dict:=odict,data:=.seq items nl,slots:=oslots}:=Heap.get?_push_of_some _ hol
 have hsls:=PySem.F.sub_list_set
 have hslf:=PySem.F.sub_list_frozenset
 have hne:(Value.type "list"==Value.type "dict")=false:=by decide
 have hl1:(s.heap.push {cls:=.type "set",dict:=none,data:=.set #[] 0 (.fresh 0 0 led)}).IsList l items:=⟨_,hol',rfl,nl,rfl⟩
 unfold Builtin.«set.__init__» noKeywords Builtin.Frozenset.updateFrom
 generalize hPI:pyIter=PI
 wp_walk
 subst hPI
 refine wpAny_pyIter_list hl1 ?_
 refine wpAny_bind (wpAny_runValue ?_)
 have hlS:l<s.heap.objs.size:=Heap.lt_size hol
 have hh3:A.in1.in1.in1.handled=none:=by simp[hh]
 have e1:(s.heap.push {cls:=.type "set",dict:=none,data:=.set #[] 0 (.fresh 0 0 led)}).objs.size=s.heap.objs.size+1:=Heap.size_push ..
 refine set_loop (A:=A.in1.in1) hh3 (S:=s.heap.objs.size) (I:=(s.heap.push {cls:=.type "set",dict:=none,data:=.set #[] 0 (.fresh 0 0 led)}).objs.size) (by rw[e1];exact Nat.ne_of_lt (Nat.lt_succ_self _)) (Nat.ne_of_gt hlS)
  (by rw[e1];exact Nat.ne_of_lt (Nat.lt_succ_of_lt hlS)) hi hb items.size 0 _ (Nat.zero_add _) ?hit ?hl ?hS0 ?hR
 case hit=>exact⟨_,Heap.get?_push_size _ rfl,rfl,rfl⟩
 case hl=>exact hl1.push _
 case hS0=>
  have hget:((s.heap.push {cls:=.type "set",dict:=none,data:=.set #[] 0 (.fresh 0 0 led)}).push {cls:=.type "list_iterator",data:=.fields #[.ref l,.int 0 0]}).get? s.heap.objs.size
   =some {cls:=.type "set",dict:=none,data:=.set #[] 0 (.fresh 0 0 led)}:=Heap.get?_push_of_some _ hS
  exact SetOf_congr ((setObjOf_fresh (knd:=intKind prog w) led).setOf hget (by decide)) (fun _=>rfl) rfl
 case hR=>
  intro h' hk' hz hS'
  show wpAny _ _ _ _ _ _
  refine wpAny_pure ?_
  show wpAny _ _ (ret Value.none) _ _ _
  refine wpAny_pure ⟨rfl,h h' hS' (fun b o hb e=> ?_) ?_⟩
  ·refine hk' b o (Nat.ne_of_lt hb) ?_ (Heap.get?_push_of_some _ (Heap.get?_push_of_some _ e))
   rw[e1];exact Nat.ne_of_lt (Nat.lt_succ_of_lt hb)
  ·rw[hz];simp[Heap.size_push]
end
inductive Mat:List (Int×Value)→List (Int×PySem.Str)→Prop
 |nil:Mat [] []
 |cons (i:Int) (x:PySem.Str) (t:Tok) {kvs cs} (h:Mat kvs cs):Mat ((i,.str x t)::kvs) ((i,x)::cs)
theorem Mat.keys{kvs cs}(h:Mat kvs cs):kvs.map (·.1)=cs.map (·.1):=by
 induction h with
 |nil=>rfl
 |cons i x t _ ih=>exact congrArg (List.cons i) ih
theorem Mat.length{kvs cs}(h:Mat kvs cs):kvs.length=cs.length:=by have:=congrArg List.length h.keys;rw[List.length_map,List.length_map]at this;exact this
theorem Mat.append{a b c d}(h:Mat a b)(k:Mat c d):Mat (a++c) (b++d):=by
 induction h with
 |nil=>exact k
 |cons i x t _ ih=>exact .cons i x t ih
section
variable{prog:Program}{w:World}{A:Around}{E:Value→Shared→Prop}
noncomputable def IntT(prog:Program)(w:World)(t:Sem Value)(i:Int):Prop:=∀(A:Around) (E:Value→Shared→Prop) (s:Shared) (Q:Value→Shared→Prop),Q (.int i s.toks) {s with toks:=s.toks+1}→wpAny (model prog w) A t Q E s
noncomputable def StrT(prog:Program)(w:World)(t:Sem Value)(x:PySem.Str):Prop:=∀(A:Around) (E:Value→Shared→Prop) (s:Shared) (Q:Value→Shared→Prop),Q (.str x s.toks) {s with toks:=s.toks+1}→wpAny (model prog w) A t Q E s
inductive Trees(prog:Program)(w:World):List (Sem Value×Sem Value)→List (Int×PySem.Str)→Prop
 |nil:Trees prog w [] []
 |cons {k v:Sem Value} {i:Int} {x:PySem.Str} {ps cs} (hk:IntT prog w k i) (hv:StrT prog w v x) (h:Trees prog w ps cs):Trees prog w ((k,v)::ps) ((i,x)::cs)
theorem Trees.length{ps cs}(h:Trees prog w ps cs):ps.length=cs.length:=by
 induction h with
 |nil=>rfl
 |cons _ _ _ ih=>exact congrArg Nat.succ ih
theorem put_new{s:Shared}{d:Addr}{kvs:List (Int×Value)}{k:Int}{key v:Value}{Q:Unit→Shared→Prop}(hkey:(intKind prog w).is k key=true)(hm:s.heap.DictOf (intKind prog w) d kvs)
(hnot:k∉kvs.map (·.1))(hsz:kvs.length≤sizeLine)
(hQ:∀h',h'.DictOf (intKind prog w) d (kvs++[(k,v)])→Heap.SameBut d s.heap h'→Q () {s with heap:=h'}):
 wpAny (model prog w) A (dictPut d ((intKind prog w).hash k) key v) Q E s:=by
 obtain⟨o,es,ep,ho,hc,hd,hk,hp,hn⟩:=hm
 have hes:es.size≤sizeLine:=Nat.le_trans (Nat.le_of_eq hp.length) hsz
 unfold dictPut
 refine wpAny_bind (wpAny_dictFind_of hkey ho hd hk ?_)
 have hidx:(es.findIdx? fun e=>(intKind prog w).is k e.key)=kvs.findIdx? fun kv=>decide (kv.1=k):=by
  rw[←hp.findIdx k];obtain⟨l⟩:=es;simp
 have hi:(es.findIdx? fun e=>(intKind prog w).is k e.key)=none:=by
  rw[hidx,List.findIdx?_eq_none_iff]
  intro kv hkv
  exact decide_eq_false fun e=>hnot (e▸List.mem_map.mpr ⟨kv,hkv,rfl⟩)
 rw[hi]
 refine wpAny_updateDictKeys (hz:=hes) ho hd (hQ _ ⟨_,_,ep+1,Heap.get?_update_self _ ho (Obj.isFreed_of_dict (Obj.data_mapDictKeys hd _)),
  hc.mapDictKeys _,Obj.data_mapDictKeys hd _,hk.push hkey _,?_,?_⟩ (Heap.SameBut.update ..))
 ·have:=hp.append hkey ((intKind prog w).hash k) v
  obtain⟨l⟩:=es
  simpa using this
 ·rw[List.map_append,List.nodup_append]
  exact⟨hn,.cons (fun _ h=>nomatch h) .nil,fun a ha b hb e=>by rw[e,List.mem_singleton.mp hb]at ha;exact hnot ha⟩
theorem stored_new{kvs:List (Int×Value)}{k:Int}{v:Value}(hnot:k∉kvs.map (·.1)):stored kvs k v=kvs++[(k,v)]:=by
 rw[stored,if_neg]
 rw[List.any_eq_true]
 rintro⟨kv,hkv,he⟩
 exact hnot (List.mem_map.mpr ⟨kv,hkv,of_decide_eq_true he⟩)
theorem tok_mul(t c n:Nat):t+c*(n+1)=t+c+c*n:=by rw[Nat.mul_succ,Nat.add_comm (c*n),Nat.add_assoc]
theorem fill_loop{d:Addr}{f:Sem Value×Sem Value→PUnit→Sem (ForInStep PUnit)}
(hf:∀(p:Sem Value×Sem Value) (s:Shared) (Q:ForInStep PUnit→Shared→Prop),
   wpAny (model prog w) A p.1 (fun kv s₁=>wpAny (model prog w) A p.2 (fun vv s₂=>wpAny (model prog w) A (dictSet d kv vv) (fun _ s₃=>Q (.yield ⟨⟩) s₃) E s₂) E s₁) E s→wpAny (model prog w) A (f p ⟨⟩) Q E s):
 ∀{ps:List (Sem Value×Sem Value)} {cs:List (Int×PySem.Str)} (ht:Trees prog w ps cs) (kvs:List (Int×Value)) (s:Shared) (Q:PUnit→Shared→Prop),s.heap.DictOf (intKind prog w) d kvs→
 (kvs.map (·.1)++cs.map (·.1)).Nodup→kvs.length+cs.length≤sizeLine→
 (∀h' kvs',Mat kvs' cs→h'.DictOf (intKind prog w) d (kvs++kvs')→Heap.SameBut d s.heap h'→Q ⟨⟩ {s with heap:=h',toks:=s.toks+3*cs.length})→
 wpAny (model prog w) A (forIn ps PUnit.unit f) Q E s:=by
 intro ps cs ht
 induction ht with
 |nil=>
  intro kvs s Q hm _ _ hQ
  rw[List.forIn_nil]
  exact wpAny_pure (hQ s.heap [] .nil (by rw[List.append_nil];exact hm) (Heap.SameBut.refl _ _))
 | @cons k v i x ps cs hk hv ht ih=>
   intro kvs s Q hm hn hsz hQ
   rw[List.forIn_cons]
   rw[List.length_cons]at hsz
   refine wpAny_bind (hf _ _ _ (hk _ _ _ _ (hv _ _ _ _ ?_)))
   have hnot:i∉kvs.map (·.1):=fun h=>by
    rw[List.nodup_append]at hn
    exact hn.2.2 i h i List.mem_cons_self rfl
   refine wpAny_dictSet_pairs (knd:=intKind prog w) (k:=i) (hsz:=Nat.le_trans (Nat.le_add_right _ _) hsz) (intKind_is _ _ _ _) hm fun h₁ hm₁ hs₁=> ?_
   rw[stored_new hnot]at hm₁
   refine ih (kvs++[(i,.str x (s.toks+1))]) _ Q hm₁ (by rw[List.map_append,List.append_assoc];exact hn) (by rw[List.length_append];exact Nat.le_trans (Nat.le_of_eq (Nat.succ_add_eq_add_succ _ _)) hsz) fun h' kvs' hM hm' hs'=> ?_
   have:=hQ h' ((i,.str x (s.toks+1))::kvs') (.cons _ _ _ hM) (by rw[List.append_assoc]at hm';exact hm') (hs₁.trans hs')
   rw[List.length_cons,tok_mul]at this
   exact this
theorem evalPairs_trees:∀{ps:List (Sem Value×Sem Value)} {cs:List (Int×PySem.Str)} (ht:Trees prog w ps cs) (s:Shared) (Q:List (Value×Value)→Shared→Prop),
 (∀vs kvs,Carries (intKind prog w) vs kvs→Mat kvs cs→vs.length=cs.length→Q vs {s with toks:=s.toks+2*cs.length})→wpAny (model prog w) A (evalPairs ps) Q E s:=by
 intro ps cs ht
 induction ht with
 |nil=>intro s Q hQ;exact evalPairs_nil (hQ [] [] trivial .nil rfl)
 | @cons k v i x ps cs hk hv ht ih=>
   intro s Q hQ
   refine evalPairs_cons (hk _ _ _ _ (hv _ _ _ _ (ih _ _ fun vs kvs hc hM hl=> ?_)))
   have:=hQ ((.int i s.toks,.str x (s.toks+1))::vs) ((i,.str x (s.toks+1))::kvs) ⟨intKind_is _ _ _ _,rfl,hc⟩ (.cons _ _ _ hM) (congrArg Nat.succ hl)
   rw[List.length_cons,tok_mul]at this
   exact this
theorem merged_new:∀{kvs acc:List (Int×Value)},(acc.map (·.1)++kvs.map (·.1)).Nodup→merged acc kvs=acc++kvs
 | [],acc,_=>(List.append_nil acc).symm
 | (k,v)::kvs,acc,h=>by
   have hnot:k∉acc.map (·.1):=fun hm=>by
    rw[List.nodup_append]at h
    exact h.2.2 k hm k List.mem_cons_self rfl
   have e:merged acc ((k,v)::kvs)=merged (stored acc k v) kvs:=rfl
   rw[e,stored_new hnot,merged_new (by rw[List.map_append,List.append_assoc];exact h),List.append_assoc]
   rfl
theorem sub_dict{ps:List (Sem Value×Sem Value)}{cs:List (Int×PySem.Str)}{s:Shared}{Q:Addr→Shared→Prop}(ht:Trees prog w ps cs)(hn:(cs.map (·.1)).Nodup)(hsz:cs.length≤1000)
(hQ:∀h' kvs',Mat kvs' cs→h'.DictOf (intKind prog w) s.heap.objs.size kvs'→Heap.SameBut s.heap.objs.size (s.heap.push {cls:=.type "dict",data:=.dict #[]}) h'→Q s.heap.objs.size {s with heap:=h',toks:=s.toks+3*cs.length}):
 wpAny (model prog w) A (subDict ps) Q E s:=by
 by_cases hlen:ps.length≤15
 ·refine wpAny_subDict (knd:=intKind prog w) hlen (evalPairs_trees ht _ _ fun vs kvs hc hM hl=>⟨kvs,hc,Heap.DictOf.new _,fun h' hd hs=> ?_⟩)
  have e:merged [] kvs=kvs:=merged_new (kvs:=kvs) (acc:=[]) (by rw[hM.keys];exact hn)
  rw[e]at hd
  have:=hQ h' kvs hM hd hs
  rw[show s.toks+3*cs.length=s.toks+2*cs.length+vs.length by rw[hl,Nat.add_assoc,←Nat.succ_mul]]at this
  exact this
 ·unfold subDict
  refine wpAny_bind (wpAny_alloc ?_)
  refine wpAny_bind (wpAny_holding ?_)
  rw[if_neg hlen]
  refine wpAny_bind (wpAny_rule ?_)
  refine wpAny_bind (fill_loop (f:=_) ?_ ht [] _ _ (Heap.DictOf.new _) hn (by rw[sizeLine_eq];exact Nat.le_trans (Nat.le_of_eq (Nat.zero_add _)) (Nat.le_trans hsz (by decide))) fun h' kvs' hM hd hs=> ?_)
  ·intro p s Q h
   obtain⟨k,v⟩:=p
   refine wpAny_bind (wpAny_mono h (fun kv s₁ h₁=> ?_) fun _ _ e=>e)
   refine wpAny_bind (wpAny_holding (wpAny_mono h₁ (fun vv s₂ h₂=> ?_) fun _ _ e=>e))
   exact wpAny_bind (wpAny_holding (wpAny_mono h₂ (fun _ s₃ h₃=>wpAny_pure h₃) fun _ _ e=>e))
  ·exact wpAny_pure (wpAny_pure (hQ h' kvs' hM hd hs))
end
section
variable{prog:Program}{w:World}{A:Around}{E:Value→Shared→Prop}
theorem pairs_at:∀{es:List DictEntry} {kvs:List (Int×Value)},Pairs (intKind prog w) es kvs→∀{j:Nat},j<kvs.length→∃e k,es[j]? =some e∧kvs[j]? =some (k,e.val)∧(intKind prog w).is k e.key=true:=by
 intro es kvs h
 induction h with
 |nil=>intro j hj;exact absurd hj (Nat.not_lt_zero _)
 | @cons e kv es kvs h1 h2 _ ih=>
   intro j hj
   cases j with
   |zero=>exact⟨e,kv.1,rfl,by rw[h2];rfl,h1⟩
   |succ j=>
    exact ih (j:=j) (Nat.lt_of_succ_lt_succ hj)
theorem merge_loop{d a:Addr}{kvs kvs₂:List (Int×Value)}{oa:Obj}{esa:Array DictEntry}{f:Nat→PUnit→Sem (ForInStep PUnit)}(hne:a≠d)(hka:KeysOf (intKind prog w) esa)(hpa:Pairs (intKind prog w) esa.toList kvs₂)
(hn:(kvs.map (·.1)++kvs₂.map (·.1)).Nodup)(hsz:kvs.length+kvs₂.length≤sizeLine)
(hf:∀(i:Nat) (e:DictEntry) (s:Shared) (Q:ForInStep PUnit→Shared→Prop),s.heap.get? a=some oa→esa[i]? =some e→
   wpAny (model prog w) A (dictPut d e.hash e.key e.val) (fun _ s'=>s'.heap.get? a=some oa∧Q (.yield ⟨⟩) s') E s→wpAny (model prog w) A (f i ⟨⟩) Q E s):
 ∀(k j:Nat) (s:Shared) (Q:PUnit→Shared→Prop),j+k=kvs₂.length→s.heap.get? a=some oa→s.heap.DictOf (intKind prog w) d (kvs++kvs₂.take j)→
  (∀h',h'.DictOf (intKind prog w) d (kvs++kvs₂)→Heap.SameBut d s.heap h'→Q ⟨⟩ {s with heap:=h'})→wpAny (model prog w) A (forIn (List.range' j k) PUnit.unit f) Q E s:=by
 intro k
 induction k with
 |zero=>
  intro j s Q hj hoa hd hQ
  rw[List.range'_zero,List.forIn_nil]
  have:kvs₂.take j=kvs₂:=List.take_of_length_le (Nat.le_of_eq hj.symm)
  rw[this]at hd
  exact wpAny_pure (hQ s.heap hd (Heap.SameBut.refl _ _))
 |succ k ih=>
  intro j s Q hj hoa hd hQ
  rw[List.range'_succ,List.forIn_cons]
  have hlt:j<kvs₂.length:=hj▸Nat.lt_add_of_pos_right (Nat.succ_pos k)
  obtain⟨e,key,he,hkv,his⟩:=pairs_at hpa (j:=j) hlt
  have hea:esa[j]? =some e:=by rw[←Array.getElem?_toList];exact he
  obtain⟨k',hk',hhash⟩:=hka e (Array.mem_of_getElem? hea)
  obtain rfl:=(intKind prog w).inj _ _ _ hk' his
  have htk:kvs₂.take (j+1)=kvs₂.take j++[(k',e.val)]:=by
   rw[List.take_add_one,hkv];rfl
  refine wpAny_bind (hf j e s _ hoa hea ?_)
  rw[hhash]
  refine put_new his hd ?_ ?_ fun h₁ hm₁ hs₁=>⟨(hs₁.2 a hne).trans hoa,?_⟩
  ·intro hmem
   rw[List.map_append,List.mem_append]at hmem
   have hsplit:kvs₂=kvs₂.take j++(k',e.val)::kvs₂.drop (j+1):=by
    obtain⟨hlt,hget⟩:=List.getElem?_eq_some_iff.mp hkv
    have:=List.take_append_drop j kvs₂
    rw[List.drop_eq_getElem_cons hlt,hget]at this
    exact this.symm
   rw[hsplit,List.map_append,List.map_cons,←List.append_assoc,List.nodup_append]at hn
   exact hn.2.2 k' (List.mem_append.mpr hmem) k' List.mem_cons_self rfl
  ·rw[List.length_append];exact Nat.le_trans (Nat.add_le_add_left (List.length_take_le' j kvs₂) _) hsz
  ·refine ih (j+1) _ Q ((Nat.succ_add_eq_add_succ j k).trans hj) ((hs₁.2 a hne).trans hoa) (by rw[htk,←List.append_assoc];exact hm₁) fun h' hd' hs'=> ?_
   exact hQ h' hd' (hs₁.trans hs')
theorem merge_new{d a:Addr}{kvs kvs₂:List (Int×Value)}{s:Shared}{Q:Unit→Shared→Prop}(hne:a≠d)(hsys:(a==sysModules)=false)(hd:s.heap.DictOf (intKind prog w) d kvs)
(ha:s.heap.DictOf (intKind prog w) a kvs₂)(hpos:kvs≠[])(hn:(kvs.map (·.1)++kvs₂.map (·.1)).Nodup)(hsz:kvs.length+kvs₂.length≤sizeLine)
(hQ:∀h',h'.DictOf (intKind prog w) d (kvs++kvs₂)→Heap.SameBut d s.heap h'→Q () {s with heap:=h'}):
 wpAny (model prog w) A (mergeMapping d (.ref a) false) Q E s:=by
 obtain⟨od,esd,epd,hod,hcd,hdd,hkd,hpd,hnd⟩:=id hd
 obtain⟨oa,esa,epa,hoa,hca,hda,hka,hpa,hna⟩:=id ha
 have hl:esa.size=kvs₂.length:=hpa.length
 have hld:esd.size=kvs.length:=hpd.length
 unfold mergeMapping
 refine wpAny_bind (wpAny_isInstance (T:="dict") (b:=true) ha.typeIs PySem.isSubtype_dict_dict ?_)
 rw[if_pos rfl]
 refine wpAny_bind (wpAny_specialOf ha.typeIs PySem.F.slot_dict_iter.lookup ?_)
 refine wpAny_bind (wpAny_pure ?_)
 simp only[beq_self_eq_true,hsys,Bool.false_eq_true,if_false]
 refine wpAny_bind (wpAny_dictEntries hod hdd ?_)
 have hem:esd.isEmpty=false:=by
  cases kvs with
  |nil=>exact absurd rfl hpos
  |cons x r=>exact decide_eq_false fun e=>nomatch e.symm.trans hld
 simp only[hem,Bool.false_eq_true,if_false]
 refine wpAny_bind (wpAny_dictEntries hoa hda ?_)
 refine wpAny_bind (wpAny_dictEpoch hoa hda ?_)
 rw[List.range_eq_range',hl]
 refine wpAny_bind (merge_loop (f:=_) hne hka hpa hn hsz ?_ kvs₂.length 0 s _ (Nat.zero_add _) hoa (by rw[List.take_zero,List.append_nil];exact hd) fun h' hd' hs'=>wpAny_pure (hQ h' hd' hs'))
 intro i e s₁ Q₁ h1 h2 h3
 refine wpAny_bind (wpAny_dictEntries h1 hda ?_)
 simp only[h2]
 refine wpAny_bind (wpAny_holding (wpAny_mono h3 (fun _ s₂ h₂=> ?_) fun _ _ e=>e))
 refine wpAny_bind (wpAny_dictEpoch h₂.1 hda ?_)
 simp only[bne_self_eq_false,Bool.false_eq_true,if_false]
 exact wpAny_pure h₂.2
end
section
variable{prog:Program}{w:World}{A:Around}{E:Value→Shared→Prop}
noncomputable def fl(run:List (Sem Value×Sem Value))(main:Option Addr):Sem (Option Addr):=do
 if run.isEmpty then return main
 match main with
 |none=>return some (←subDict run)
 |some d=>
  let sub ←holding [.ref d] (subDict run)
  (holding [.ref d,.ref sub] (mergeMapping d (.ref sub) false)).onRaise fun x=>do let _ ←holding [.ref d,x] (runValue (.builtin "proto.let_go" {}))
  return some d
noncomputable def Disp(w:World)(prog:Program)(s₀:Shared)(main:Option Addr)(done:List (Int×PySem.Str))(j:Nat)(s:Shared):Prop:=match main with
 |none=>done=[]∧j=0∧s=s₀
 |some d=>d=s₀.heap.objs.size∧done≠[]∧∃h' kvs,s={s₀ with heap:=h',toks:=s₀.toks+3*done.length}∧Mat kvs done∧h'.DictOf (intKind prog w) d kvs∧
   (∀b o,b<s₀.heap.objs.size→s₀.heap.get? b=some o→h'.get? b=some o)∧s₀.heap.objs.size<h'.objs.size∧h'.objs.size=s₀.heap.objs.size+j
theorem flush_one{s₀ s:Shared}{main:Option Addr}{done:List (Int×PySem.Str)}{j:Nat}{ps cs}{Q:Option Addr→Shared→Prop}(hlow:1<s₀.heap.objs.size)(hJ:Disp w prog s₀ main done j s)(ht:Trees prog w ps cs)(h0:cs≠[])(hlen:cs.length≤17)
(hn:((done++cs).map (·.1)).Nodup)(hsz:done.length≤1000)(hQ:∀m' s',Disp w prog s₀ m' (done++cs) (j+1) s'→Q m' s'):wpAny (model prog w) A (fl ps main) Q E s:=by
 have hne:ps.isEmpty=false:=by
  cases ht with
  |nil=>exact absurd rfl h0
  |cons=>rfl
 rw[List.map_append]at hn
 have hn2:=(List.nodup_append.mp hn).2.1
 have hl2:=Nat.le_trans hlen (by decide:17≤1000)
 unfold fl
 rw[hne]
 rw[if_neg Bool.false_ne_true]
 cases main with
 |none=>
  obtain⟨rfl,rfl,rfl⟩:=hJ
  refine wpAny_bind (sub_dict ht hn2 hl2 fun h' kvs' hM hd hs=> ?_)
  have z:=hs.1.trans (Heap.size_push ..)
  exact wpAny_pure (hQ _ _ ⟨rfl,h0,h',kvs',rfl,hM,hd,fun b o hb e=>(hs.2 b (Nat.ne_of_lt hb)).trans (Heap.get?_push_of_some _ e),Nat.lt_of_lt_of_eq (Nat.lt_succ_self _) z.symm,z⟩)
 |some d=>
  obtain⟨rfl,hd0,h₁,kvs,rfl,hM,hd,hk,hz1,hz⟩:=hJ
  refine wpAny_bind (wpAny_holding (sub_dict ht hn2 hl2 fun h₂ kvs₂ hM₂ hd₂ hs₂=> ?_))
  have e1:s₀.heap.objs.size≠h₁.objs.size:=Nat.ne_of_lt hz1
  refine wpAny_bind (wpAny_onRaise (wpAny_holding (merge_new (Ne.symm e1) (beq_eq_false_iff_ne.mpr (Nat.ne_of_gt (Nat.lt_trans hlow hz1))) ((hd.push _).sameBut hs₂ e1) hd₂ ?_ ?_ ?_ fun h₃ hd₃ hs₃=>wpAny_pure ?_)))
  ·intro e;rw[e]at hM;cases hM;exact hd0 rfl
  ·rw[hM.keys,hM₂.keys];exact hn
  ·rw[hM.length,hM₂.length,sizeLine_eq];exact Nat.le_trans (Nat.add_le_add hsz hlen) (by decide)
  ·have hzz:h₃.objs.size=h₁.objs.size+1:=hs₃.1.trans (hs₂.1.trans (Heap.size_push ..))
   exact hQ (some s₀.heap.objs.size) {s₀ with heap:=h₃,toks:=s₀.toks+3*done.length+3*cs.length} ⟨rfl,fun e=>h0 (List.append_eq_nil_iff.mp e).2,h₃,kvs++kvs₂,by rw[List.length_append,Nat.mul_add,Nat.add_assoc],hM.append hM₂,hd₃,
    fun b o hb e=>(hs₃.2 b (Nat.ne_of_lt hb)).trans ((hs₂.2 b (Nat.ne_of_lt (Nat.lt_trans hb hz1))).trans (Heap.get?_push_of_some _ (hk b o hb e))),Nat.lt_of_lt_of_eq (Nat.lt_succ_of_lt hz1) hzz.symm,hzz.trans (congrArg Nat.succ hz)⟩
theorem Trees.snoc{k v:Sem Value}{i:Int}{x:PySem.Str}{rs rcs}(h:Trees prog w rs rcs)(hk:IntT prog w k i)(hv:StrT prog w v x):Trees prog w (rs++[(k,v)]) (rcs++[(i,x)]):=by
 induction h with
 |nil=>exact .cons hk hv .nil
 |cons a b _ ih=>exact .cons a b ih
theorem display_loop{s₀:Shared}(hlow:1<s₀.heap.objs.size){f:(Option (Sem Value)×Sem Value)→(Option Addr×List (Sem Value×Sem Value))→Sem (ForInStep (Option Addr×List (Sem Value×Sem Value)))}
(hf1:∀(k v:Sem Value) (m:Option Addr) (run:List (Sem Value×Sem Value)),run.length+1<17→f (some k,v) (m,run)=pure (.yield (m,run++[(k,v)])))
(hf2:∀(k v:Sem Value) (m:Option Addr) (run:List (Sem Value×Sem Value)),run.length+1=17→f (some k,v) (m,run)=(do let m' ←fl (run++[(k,v)]) m;pure (.yield (m',[]))))
{all:List (Int×PySem.Str)}(hn:(all.map (·.1)).Nodup)(hz:all.length≤1000){Q:(Option Addr×List (Sem Value×Sem Value))→Shared→Prop}
(hQ:∀m' rs' rcs' done' j s',Trees prog w rs' rcs'→rcs'.length<17→done'++rcs'=all→done'.length=17*j→Disp w prog s₀ m' done' j s'→Q (m',rs') s'):
 ∀{ps:List (Sem Value×Sem Value)} {cs} (ht:Trees prog w ps cs) {rs rcs} (hr:Trees prog w rs rcs) (main:Option Addr) (done:List (Int×PySem.Str)) (j:Nat) (s:Shared),rcs.length<17→
  Disp w prog s₀ main done j s→done.length=17*j→done++rcs++cs=all→wpAny (model prog w) A (forIn (ps.map fun p=>(some p.1,p.2)) (main,rs) f) Q E s:=by
 intro ps cs ht
 induction ht with
 |nil=>
  intro rs rcs hr main done j s hl hJ hdv ha
  rw[List.map_nil,List.forIn_nil]
  exact wpAny_pure (hQ _ _ rcs done j _ hr hl ((List.append_nil _).symm.trans ha) hdv hJ)
 | @cons k v i x ps cs hk hv ht ih=>
   intro rs rcs hr main done j s hl hJ hdv ha
   rw[List.map_cons,List.forIn_cons]
   have hrl:=hr.length
   have hr':=hr.snoc hk hv
   have ha':done++(rcs++[(i,x)])++cs=all:=by rw[←List.append_assoc done,List.append_assoc _ [(i,x)]];exact ha
   by_cases h17:rcs.length+1<17
   ·rw[hf1 k v main rs (by rw[hrl];exact h17)]
    exact wpAny_bind (wpAny_pure (ih hr' main done j s (Nat.lt_of_le_of_lt (Nat.le_of_eq List.length_append) h17) hJ hdv ha'))
   ·have e17:=Nat.le_antisymm hl (Nat.le_of_not_lt h17)
    rw[hf2 k v main rs (by rw[hrl];exact e17)]
    have el:(rcs++[(i,x)]).length=17:=List.length_append.trans e17
    have hle:done.length≤all.length:=ha▸((List.sublist_append_left done rcs).trans (List.sublist_append_left _ _)).length_le
    refine wpAny_bind (wpAny_bind (flush_one hlow hJ hr' (fun e=>nomatch (List.append_eq_nil_iff.mp e).2) (Nat.le_of_eq el) ?_ (Nat.le_trans hle hz) fun m' s' hJ'=>wpAny_pure ?_))
    ·rw[←ha',List.map_append]at hn
     exact(List.nodup_append.mp hn).1
    ·exact ih .nil m' (done++(rcs++[(i,x)])) (j+1) s' (by decide) hJ' (by rw[List.length_append,hdv,el];rfl) (by rw[List.append_nil];exact ha')
theorem chunks{j r:Nat}(h:r<17):(17*j+r+16)/17=if r=0 then j else j+1:=by
 cases r with
 |zero=>exact Nat.mul_add_div (by decide) j 16
 |succ r=>rw[if_neg (Nat.succ_ne_zero r),Nat.add_assoc,Nat.add_right_comm r 1 16,Nat.add_assoc r,Nat.add_comm r,←Nat.add_assoc,←Nat.mul_succ,Nat.mul_add_div (by decide),Nat.div_eq_of_lt (Nat.lt_of_succ_lt h)]
theorem display{s:Shared}(hlow:1<s.heap.objs.size){ps:List (Sem Value×Sem Value)}{cs}(ht:Trees prog w ps cs)(h0:cs≠[])(hn:(cs.map (·.1)).Nodup)(hz:cs.length≤1000){Q:Value→Shared→Prop}
(hQ:∀h' kvs,Mat kvs cs→h'.DictOf (intKind prog w) s.heap.objs.size kvs→(∀b o,b<s.heap.objs.size→s.heap.get? b=some o→h'.get? b=some o)→h'.objs.size=s.heap.objs.size+(cs.length+16)/17→
   Q (.ref s.heap.objs.size) {s with heap:=h',toks:=s.toks+3*cs.length}):
 wpAny (model prog w) A (dictDisplay (ps.map fun p=>(some p.1,p.2))) Q E s:=by
 unfold dictDisplay
 dsimp only
 refine wpAny_bind (display_loop (f:=_) hlow (fun k v m run hl=> ?_) (fun k v m run hl=> ?_) hn hz (fun m' rs' rcs' done' j s' h1 h2 h3 h4 h5=> ?_) ht .nil none [] 0 s (by decide) ⟨rfl,rfl,rfl⟩ rfl rfl)
 ·exact if_neg (ne_true_of_eq_false (beq_eq_false_iff_ne.mpr (Nat.ne_of_lt (Nat.lt_of_le_of_lt (Nat.le_of_eq List.length_append) hl))))
 ·exact if_pos (beq_iff_eq.mpr (List.length_append.trans hl))
 ·have el:(cs.length+16)/17=if rcs'.length=0 then j else j+1:=by rw[←h3,List.length_append,h4];exact chunks h2
  rw[el]at hQ
  have close:∀m s',Disp w prog s m cs (if rcs'.length=0 then j else j+1) s'→wpAny (model prog w) A (match m with |some d=>pure (Value.ref d) |none=>newDict) Q E s':=by
   intro m s' hJ
   cases m with
   |none=>exact absurd hJ.1 h0
   |some d=>
    obtain⟨rfl,_,h',kvs,rfl,hM,hd,hk,_,hzz⟩:=hJ
    exact wpAny_pure (hQ h' kvs hM hd hk hzz)
  refine wpAny_bind ?_
  show wpAny _ _ (fl rs' m') _ _ _
  by_cases hr0:rcs'=[]
  ·subst hr0
   cases h1
   rw[List.append_nil]at h3
   subst h3
   exact wpAny_pure (close _ _ h5)
  ·rw[if_neg (fun e=>hr0 (List.eq_nil_of_length_eq_zero e))]at close
   rw[←h3]at hn close hz
   exact flush_one hlow h5 h1 hr0 (Nat.le_of_lt h2) hn (Nat.le_trans (List.sublist_append_left _ _).length_le hz) close
end
end
section
open PySem PySem.W
abbrev pw:Program:=PySem.Challenge.pw_uq0029_01
noncomputable abbrev S(x:String):PySem.Str:=PySem.Str.ofString x
def stN(i:Nat):Stmt:=(pw.main.body[i]?).getD (.Pass default)
def clsB:Stmt→List Stmt
 | .ClassDef _ _ _ b _ _ _ _ _ _ _=>b
 |_=>[]
def stM(i j:Nat):Stmt:=((clsB (stN i))[j]?).getD (.Pass default)
def fdA:Stmt→Arguments
 | .FunctionDef _ a _ _ _ _ _ _ _ _=>a
 |_=>{posonlyargs:=[],args:=[],vararg:=none,kwonlyargs:=[],kw_defaults:=[],kwarg:=none,defaults:=[]}
def fdB:Stmt→List Stmt
 | .FunctionDef _ _ b _ _ _ _ _ _ _=>b
 |_=>[]
def fdS:Stmt→Scope
 | .FunctionDef _ _ _ _ _ _ s _ _ _=>s
 |_=>default
noncomputable abbrev tx(x:String)(n:Nat):Value:=.str (S x) n
noncomputable abbrev iz(n:Int):Value:=.int n 0
noncomputable abbrev eK(P:Params)(x:String)(n:Nat)(v:Value):DictEntry:=⟨PyData.keyHash P (S x),.str (S x) n,v⟩
noncomputable abbrev tU(l:Array Value):Obj:=⟨.type "tuple",none,.seq l 0,#[]⟩
noncomputable abbrev dO(l:Array DictEntry)(n:Nat):Obj:=⟨.type "dict",none,.dict l n,#[]⟩
noncomputable abbrev fO(l:Array Value):Obj:=⟨.none,none,.fields l,#[]⟩
noncomputable abbrev fN(a b:String)(s:Stmt):Obj:=⟨.none,none,.func {name:=S a,qualname:=S b,params:=fdA s,body:=.stmts (fdB s),scope:=fdS s,globals:=0,closure:=[],defaults:=.none,kwdefaults:=.none,doc:=.none,pyModule:=.none,annotations:=none,code:=.none,closureTuple:=.none,builtins:=0},#[]⟩
noncomputable abbrev fF(a b:String)(s:Stmt)(cl:List (PySem.Str×Addr))(df md:Value)(c:Addr)(ct:Value):Obj:=⟨.type "function",none,.func {name:=S a,qualname:=S b,params:=fdA s,body:=.stmts (fdB s),scope:=fdS s,globals:=3,closure:=cl,defaults:=df,kwdefaults:=.none,doc:=.none,pyModule:=md,annotations:=none,code:=.ref c,closureTuple:=ct,builtins:=0},#[]⟩
noncomputable abbrev cO(a b:String)(t:Nat)(l n p f:Int)(r:Addr)(g:Bool)(x y z:Value)(u:Nat):Obj:=⟨.type "code",none,.fields #[tx a t,tx b (t+1),tx "/claim/cut.py" (t+2),iz l,iz n,iz 0,iz p,iz f,.ref r,.bool g,iz 276,.ref (r+1),.none,x,y,z,iz u,iz l,tx "/claim/cut.py" (u+1)],#[]⟩
def o0(P:Params):=dO #[eK P "__name__" 1 (tx "builtins" 160),eK P "__doc__" 2 (.builtin "builtins.__doc__:str#opaque"),eK P "__package__" 3 (.builtin "builtins.__package__:str#opaque"),eK P "__loader__" 4 (.builtin "builtins.__loader__:shared#opaque"),eK P "__spec__" 5 (.builtin "builtins.__spec__#opaque"),eK P "__build_class__" 6 (.builtin "__build_class__"),eK P "__import__" 7 (.builtin "__import__"),eK P "abs" 8 (.builtin "abs"),eK P "all" 9 (.builtin "all"),eK P "any" 10 (.builtin "any"),eK P "ascii" 11 (.builtin "ascii"),eK P "bin" 12 (.builtin "bin"),eK P "breakpoint" 13 (.builtin "breakpoint"),eK P "callable" 14 (.builtin "callable"),eK P "chr" 15 (.builtin "chr"),eK P "compile" 16 (.builtin "compile"),eK P "delattr" 17 (.builtin "delattr"),eK P "dir" 18 (.builtin "dir"),eK P "divmod" 19 (.builtin "divmod"),eK P "eval" 20 (.builtin "eval"),eK P "exec" 21 (.builtin "exec"),eK P "format" 22 (.builtin "format"),eK P "getattr" 23 (.builtin "getattr"),eK P "globals" 24 (.builtin "globals"),eK P "hasattr" 25 (.builtin "hasattr"),eK P "hash" 26 (.builtin "hash"),eK P "hex" 27 (.builtin "hex"),eK P "id" 28 (.builtin "id"),eK P "input" 29 (.builtin "input"),eK P "isinstance" 30 (.builtin "isinstance"),eK P "issubclass" 31 (.builtin "issubclass"),eK P "iter" 32 (.builtin "iter"),eK P "aiter" 33 (.builtin "aiter"),eK P "len" 34 (.builtin "len"),eK P "locals" 35 (.builtin "locals"),eK P "max" 36 (.builtin "max"),eK P "min" 37 (.builtin "min"),eK P "next" 38 (.builtin "next"),eK P "anext" 39 (.builtin "anext"),eK P "oct" 40 (.builtin "oct"),eK P "ord" 41 (.builtin "ord"),eK P "pow" 42 (.builtin "pow"),eK P "print" 43 (.builtin "print"),eK P "repr" 44 (.builtin "repr"),eK P "round" 45 (.builtin "round"),eK P "setattr" 46 (.builtin "setattr"),eK P "sorted" 47 (.builtin "sorted"),eK P "sum" 48 (.builtin "sum"),eK P "vars" 49 (.builtin "vars"),eK P "None" 50 .none,eK P "Ellipsis" 51 .ellipsis,eK P "NotImplemented" 52 .notImplemented,eK P "False" 53 (.bool false),eK P "True" 54 (.bool true),eK P "bool" 55 (.type "bool"),eK P "memoryview" 56 (.type "memoryview"),eK P "bytearray" 57 (.type "bytearray"),eK P "bytes" 58 (.type "bytes"),eK P "classmethod" 59 (.type "classmethod"),eK P "complex" 60 (.type "complex"),eK P "dict" 61 (.type "dict"),eK P "enumerate" 62 (.type "enumerate"),eK P "filter" 63 (.type "filter"),eK P "float" 64 (.type "float"),eK P "frozenset" 65 (.type "frozenset"),eK P "property" 66 (.type "property"),eK P "int" 67 (.type "int"),eK P "list" 68 (.type "list"),eK P "map" 69 (.type "map"),eK P "object" 70 (.type "object"),eK P "range" 71 (.type "range"),eK P "reversed" 72 (.type "reversed"),eK P "set" 73 (.type "set"),eK P "slice" 74 (.type "slice"),eK P "staticmethod" 75 (.type "staticmethod"),eK P "str" 76 (.type "str"),eK P "super" 77 (.type "super"),eK P "tuple" 78 (.type "tuple"),eK P "type" 79 (.type "type"),eK P "zip" 80 (.type "zip"),eK P "__debug__" 81 (.bool true),eK P "BaseException" 82 (.type "BaseException"),eK P "BaseExceptionGroup" 83 (.type "BaseExceptionGroup"),eK P "Exception" 84 (.type "Exception"),eK P "GeneratorExit" 85 (.type "GeneratorExit"),eK P "KeyboardInterrupt" 86 (.type "KeyboardInterrupt"),eK P "SystemExit" 87 (.type "SystemExit"),eK P "ArithmeticError" 88 (.type "ArithmeticError"),eK P "AssertionError" 89 (.type "AssertionError"),eK P "AttributeError" 90 (.type "AttributeError"),eK P "BufferError" 91 (.type "BufferError"),eK P "EOFError" 92 (.type "EOFError"),eK P "ImportError" 93 (.type "ImportError"),eK P "LookupError" 94 (.type "LookupError"),eK P "MemoryError" 95 (.type "MemoryError"),eK P "NameError" 96 (.type "NameError"),eK P "OSError" 97 (.type "OSError"),eK P "ReferenceError" 98 (.type "ReferenceError"),eK P "RuntimeError" 99 (.type "RuntimeError"),eK P "StopAsyncIteration" 100 (.type "StopAsyncIteration"),eK P "StopIteration" 101 (.type "StopIteration"),eK P "SyntaxError" 102 (.type "SyntaxError"),eK P "SystemError" 103 (.type "SystemError"),eK P "TypeError" 104 (.type "TypeError"),eK P "ValueError" 105 (.type "ValueError"),eK P "Warning" 106 (.type "Warning"),eK P "FloatingPointError" 107 (.type "FloatingPointError"),eK P "OverflowError" 108 (.type "OverflowError"),eK P "ZeroDivisionError" 109 (.type "ZeroDivisionError"),eK P "BytesWarning" 110 (.type "BytesWarning"),eK P "DeprecationWarning" 111 (.type "DeprecationWarning"),eK P "EncodingWarning" 112 (.type "EncodingWarning"),eK P "FutureWarning" 113 (.type "FutureWarning"),eK P "ImportWarning" 114 (.type "ImportWarning"),eK P "PendingDeprecationWarning" 115 (.type "PendingDeprecationWarning"),eK P "ResourceWarning" 116 (.type "ResourceWarning"),eK P "RuntimeWarning" 117 (.type "RuntimeWarning"),eK P "SyntaxWarning" 118 (.type "SyntaxWarning"),eK P "UnicodeWarning" 119 (.type "UnicodeWarning"),eK P "UserWarning" 120 (.type "UserWarning"),eK P "BlockingIOError" 121 (.type "BlockingIOError"),eK P "ChildProcessError" 122 (.type "ChildProcessError"),eK P "ConnectionError" 123 (.type "ConnectionError"),eK P "FileExistsError" 124 (.type "FileExistsError"),eK P "FileNotFoundError" 125 (.type "FileNotFoundError"),eK P "InterruptedError" 126 (.type "InterruptedError"),eK P "IsADirectoryError" 127 (.type "IsADirectoryError"),eK P "NotADirectoryError" 128 (.type "NotADirectoryError"),eK P "PermissionError" 129 (.type "PermissionError"),eK P "ProcessLookupError" 130 (.type "ProcessLookupError"),eK P "TimeoutError" 131 (.type "TimeoutError"),eK P "IndentationError" 132 (.type "IndentationError"),eK P "_IncompleteInputError" 133 (.type "_IncompleteInputError"),eK P "IndexError" 134 (.type "IndexError"),eK P "KeyError" 135 (.type "KeyError"),eK P "ModuleNotFoundError" 136 (.type "ModuleNotFoundError"),eK P "NotImplementedError" 137 (.type "NotImplementedError"),eK P "PythonFinalizationError" 138 (.type "PythonFinalizationError"),eK P "RecursionError" 139 (.type "RecursionError"),eK P "UnboundLocalError" 140 (.type "UnboundLocalError"),eK P "UnicodeError" 141 (.type "UnicodeError"),eK P "BrokenPipeError" 142 (.type "BrokenPipeError"),eK P "ConnectionAbortedError" 143 (.type "ConnectionAbortedError"),eK P "ConnectionRefusedError" 144 (.type "ConnectionRefusedError"),eK P "ConnectionResetError" 145 (.type "ConnectionResetError"),eK P "TabError" 146 (.type "TabError"),eK P "UnicodeDecodeError" 147 (.type "UnicodeDecodeError"),eK P "UnicodeEncodeError" 148 (.type "UnicodeEncodeError"),eK P "UnicodeTranslateError" 149 (.type "UnicodeTranslateError"),eK P "ExceptionGroup" 150 (.type "ExceptionGroup"),eK P "EnvironmentError" 151 (.type "OSError"),eK P "IOError" 152 (.type "OSError"),eK P "open" 153 (.builtin "open"),eK P "quit" 154 (.builtin "builtins.quit#opaque"),eK P "exit" 155 (.builtin "builtins.exit#opaque"),eK P "copyright" 156 (.builtin "builtins.copyright#opaque"),eK P "credits" 157 (.builtin "builtins.credits#opaque"),eK P "license" 158 (.builtin "builtins.license#opaque"),eK P "help" 159 (.builtin "builtins.help#opaque")] 159
def o1(P:Params):=dO #[eK P "builtins" 162 (.ref 4),eK P "__main__" 163 (.ref 5),eK P "_sre" 244 (.ref 12)] 3
noncomputable def o2(P:Params):Obj:=⟨.none,none,(.dict #[eK P "\x69mport.loaded._sre" 183 (.bool true),eK P "class._frozen_importlib.BuiltinImporter" 185 (.ref 14),eK P "watched.\x69mport" 206 (.ref 18),eK P "class._frozen_importlib.ModuleSpec" 216 (.ref 22),eK P "sys.modules.booked-epoch" 245 (iz 3),eK P "\x69mport.later-laid._sre" 270 (.bool true),eK P "watched.library" 272 (.ref 27),eK P "watched.library-objects" 0 (.str (PySem.Str.mk #[12]) 0),eK P "watched.library-deep._sre" 273 (.str (PySem.Str.mk #[4,0,0,11,4,0,0,11,4,0,0,3,4,0,0,11,8,4,100,105,99,116,2]) 0)] 9),#[]⟩
noncomputable def o4(P:Params):Obj:=⟨(.type "module"),(some 0),.plain,#[]⟩
noncomputable def o5(P:Params):Obj:=⟨(.type "module"),(some 3),.plain,#[]⟩
def o6(P:Params):=dO #[] 0
def o7(P:Params):=tU #[]
def o8(P:Params):=fO #[]
noncomputable def o9(P:Params):Obj:=⟨(.type "code"),none,(.fields #[(tx "<module>" 176),(tx "<module>" 177),(tx "/claim/cut.py" 178),(iz 1),(iz 0),(iz 0),(iz 0),(iz 0),(.ref 7),(.bool false),(iz 175),(.ref 8),.none,.none,.none,.none,(iz 179),(iz 1),(tx "/claim/cut.py" 180)]),#[]⟩
noncomputable def o10(P:Params):Obj:=⟨(.type "frame"),none,.plain,#[(some (.ref 9)),(some (.ref 3)),(some (.ref 3)),none,(some (tx "__main__" 164)),none,(some (.ref 0))]⟩
def o11(P:Params):=dO #[eK P "__name__" 247 (tx "_sre" 246),eK P "__doc__" 248 .none,eK P "__package__" 250 (tx "" 249),eK P "__loader__" 251 (.builtin "off-the-table:_sre.__loader__:shared#opaque"),eK P "__spec__" 252 (.builtin "off-the-table:_sre.__spec__:shared#opaque"),eK P "compile" 253 (.builtin "_sre.compile"),eK P "template" 254 (.builtin "off-the-table:_sre.template:shared#opaque"),eK P "getcodesize" 255 (.builtin "off-the-table:_sre.getcodesize:shared#opaque"),eK P "ascii_iscased" 256 (.builtin "off-the-table:_sre.ascii_iscased:shared#opaque"),eK P "unicode_iscased" 257 (.builtin "off-the-table:_sre.unicode_iscased:shared#opaque"),eK P "ascii_tolower" 258 (.builtin "off-the-table:_sre.ascii_tolower:shared#opaque"),eK P "unicode_tolower" 259 (.builtin "off-the-table:_sre.unicode_tolower:shared#opaque"),eK P "MAGIC" 261 (.int 20230612 260),eK P "CODESIZE" 263 (.int 4 262),eK P "MAXREPEAT" 265 (.int 4294967295 264),eK P "MAXGROUPS" 267 (.int 1073741823 266),eK P "copyright" 269 (tx " SRE 2.2.2 Copyright (c) 1997-2002 by Secret Labs AB " 268)] 17
noncomputable def o12(P:Params):Obj:=⟨(.type "module"),(some 11),.plain,#[]⟩
def o13(P:Params):=dO #[eK P "__module__" 189 (tx "_frozen_importlib" 186),eK P "__firstlineno__" 190 (.int 971 187),eK P "__doc__" 191 (.builtin "_frozen_importlib.BuiltinImporter.__doc__:str#opaque"),eK P "_ORIGIN" 192 (tx "built-in" 188),eK P "find_spec" 193 (.builtin "_frozen_importlib.BuiltinImporter.find_spec#opaque"),eK P "create_module" 194 (.builtin "_frozen_importlib.BuiltinImporter.create_module#opaque"),eK P "exec_module" 195 (.builtin "_frozen_importlib.BuiltinImporter.exec_module#opaque"),eK P "get_code" 196 (.builtin "_frozen_importlib.BuiltinImporter.get_code#opaque"),eK P "get_source" 197 (.builtin "_frozen_importlib.BuiltinImporter.get_source#opaque"),eK P "is_package" 198 (.builtin "_frozen_importlib.BuiltinImporter.is_package#opaque"),eK P "load_module" 199 (.builtin "_frozen_importlib.BuiltinImporter.load_module#opaque"),eK P "__static_attributes__" 200 (.ref 15),eK P "__dict__" 202 (.ref 16),eK P "__weakref__" 204 (.ref 17)] 14
noncomputable def o14(P:Params):Obj:=⟨(.type "type"),none,(.cls {name:=(S "BuiltinImporter"),bases:=[(.type "object")],mro:=[(.ref 14),(.type "object")],ns:=13,qualname:=(S "BuiltinImporter"),hasDict:=true,slotNames:=[],subclasses:=[],abstract:=false,collection:=none,hasDel:=false}),#[]⟩
def o15(P:Params):=tU #[]
noncomputable def o16(P:Params):Obj:=⟨(.type "getset_descriptor"),none,(.fields #[(tx "__dict__" 201),(.ref 14),(.builtin "function.__dict__"),(.builtin "function.__dict__#set")]),#[]⟩
noncomputable def o17(P:Params):Obj:=⟨(.type "getset_descriptor"),none,(.fields #[(tx "__weakref__" 203),(.ref 14),(.builtin "ExceptionGroup.__weakref__"),.none]),#[]⟩
noncomputable def o18(P:Params):Obj:=⟨.none,none,(.seq #[(iz 13),(.str (PySem.Str.mk #[6,189,10,95,95,109,111,100,117,108,101,95,95,6,186,17,95,102,114,111,122,101,110,95,105,109,112,111,114,116,108,105,98,6,190,15,95,95,102,105,114,115,116,108,105,110,101,110,111,95,95,4,187,0,971,6,191,7,95,95,100,111,99,95,95,9,52,95,102,114,111,122,101,110,95,105,109,112,111,114,116,108,105,98,46,66,117,105,108,116,105,110,73,109,112,111,114,116,101,114,46,95,95,100,111,99,95,95,58,115,116,114,35,111,112,97,113,117,101,6,192,7,95,79,82,73,71,73,78,6,188,8,98,117,105,108,116,45,105,110,6,193,9,102,105,110,100,95,115,112,101,99,9,50,95,102,114,111,122,101,110,95,105,109,112,111,114,116,108,105,98,46,66,117,105,108,116,105,110,73,109,112,111,114,116,101,114,46,102,105,110,100,95,115,112,101,99,35,111,112,97,113,117,101,6,194,13,99,114,101,97,116,101,95,109,111,100,117,108,101,9,54,95,102,114,111,122,101,110,95,105,109,112,111,114,116,108,105,98,46,66,117,105,108,116,105,110,73,109,112,111,114,116,101,114,46,99,114,101,97,116,101,95,109,111,100,117,108,101,35,111,112,97,113,117,101,6,195,11,101,120,101,99,95,109,111,100,117,108,101,9,52,95,102,114,111,122,101,110,95,105,109,112,111,114,116,108,105,98,46,66,117,105,108,116,105,110,73,109,112,111,114,116,101,114,46,101,120,101,99,95,109,111,100,117,108,101,35,111,112,97,113,117,101,6,196,8,103,101,116,95,99,111,100,101,9,49,95,102,114,111,122,101,110,95,105,109,112,111,114,116,108,105,98,46,66,117,105,108,116,105,110,73,109,112,111,114,116,101,114,46,103,101,116,95,99,111,100,101,35,111,112,97,113,117,101,6,197,10,103,101,116,95,115,111,117,114,99,101,9,51,95,102,114,111,122,101,110,95,105,109,112,111,114,116,108,105,98,46,66,117,105,108,116,105,110,73,109,112,111,114,116,101,114,46,103,101,116,95,115,111,117,114,99,101,35,111,112,97,113,117,101,6,198,10,105,115,95,112,97,99,107,97,103,101,9,51,95,102,114,111,122,101,110,95,105,109,112,111,114,116,108,105,98,46,66,117,105,108,116,105,110,73,109,112,111,114,116,101,114,46,105,115,95,112,97,99,107,97,103,101,35,111,112,97,113,117,101,6,199,11,108,111,97,100,95,109,111,100,117,108,101,9,52,95,102,114,111,122,101,110,95,105,109,112,111,114,116,108,105,98,46,66,117,105,108,116,105,110,73,109,112,111,114,116,101,114,46,108,111,97,100,95,109,111,100,117,108,101,35,111,112,97,113,117,101,6,200,21,95,95,115,116,97,116,105,99,95,97,116,116,114,105,98,117,116,101,115,95,95,4,0,0,15,6,202,8,95,95,100,105,99,116,95,95,4,0,0,16,6,204,11,95,95,119,101,97,107,114,101,102,95,95,4,0,0,17]) 0),(.bool true),(.bool true),(tx "" 205),(iz 21),(.str (PySem.Str.mk #[6,227,10,95,95,109,111,100,117,108,101,95,95,6,217,17,95,102,114,111,122,101,110,95,105,109,112,111,114,116,108,105,98,6,228,15,95,95,102,105,114,115,116,108,105,110,101,110,111,95,95,4,218,0,562,6,229,7,95,95,100,111,99,95,95,9,47,95,102,114,111,122,101,110,95,105,109,112,111,114,116,108,105,98,46,77,111,100,117,108,101,83,112,101,99,46,95,95,100,111,99,95,95,58,115,116,114,35,111,112,97,113,117,101,6,230,8,95,95,105,110,105,116,95,95,9,44,95,102,114,111,122,101,110,95,105,109,112,111,114,116,108,105,98,46,77,111,100,117,108,101,83,112,101,99,46,95,95,105,110,105,116,95,95,35,111,112,97,113,117,101,6,231,8,95,95,114,101,112,114,95,95,9,44,95,102,114,111,122,101,110,95,105,109,112,111,114,116,108,105,98,46,77,111,100,117,108,101,83,112,101,99,46,95,95,114,101,112,114,95,95,35,111,112,97,113,117,101,6,232,6,95,95,101,113,95,95,9,42,95,102,114,111,122,101,110,95,105,109,112,111,114,116,108,105,98,46,77,111,100,117,108,101,83,112,101,99,46,95,95,101,113,95,95,35,111,112,97,113,117,101,6,233,6,99,97,99,104,101,100,9,42,95,102,114,111,122,101,110,95,105,109,112,111,114,116,108,105,98,46,77,111,100,117,108,101,83,112,101,99,46,99,97,99,104,101,100,35,111,112,97,113,117,101,6,234,6,112,97,114,101,110,116,9,42,95,102,114,111,122,101,110,95,105,109,112,111,114,116,108,105,98,46,77,111,100,117,108,101,83,112,101,99,46,112,97,114,101,110,116,35,111,112,97,113,117,101,6,235,12,104,97,115,95,108,111,99,97,116,105,111,110,9,48,95,102,114,111,122,101,110,95,105,109,112,111,114,116,108,105,98,46,77,111,100,117,108,101,83,112,101,99,46,104,97,115,95,108,111,99,97,116,105,111,110,35,111,112,97,113,117,101,6,236,21,95,95,115,116,97,116,105,99,95,97,116,116,114,105,98,117,116,101,115,95,95,4,0,0,23,6,238,8,95,95,100,105,99,116,95,95,4,0,0,24,6,240,11,95,95,119,101,97,107,114,101,102,95,95,4,0,0,25,6,241,8,95,95,104,97,115,104,95,95,0]) 0),(.bool true),(.bool true),(tx "" 242)] 1),#[]⟩
noncomputable def o19(P:Params):Obj:=⟨(.type "list"),none,(.seq #[] 0),#[]⟩
def o20(P:Params):=dO #[eK P "name" 208 (tx "_sre" 207),eK P "loader" 209 (.ref 14),eK P "origin" 210 (tx "built-in" 184),eK P "loader_state" 211 .none,eK P "submodule_search_locations" 212 .none,eK P "_uninitialized_submodules" 213 (.ref 19),eK P "_set_fileattr" 214 (.bool false),eK P "_cached" 215 .none,eK P "_initializing" 243 (.bool false)] 9
def o21(P:Params):=dO #[eK P "__module__" 227 (tx "_frozen_importlib" 217),eK P "__firstlineno__" 228 (.int 562 218),eK P "__doc__" 229 (.builtin "_frozen_importlib.ModuleSpec.__doc__:str#opaque"),eK P "__init__" 230 (.builtin "_frozen_importlib.ModuleSpec.__init__#opaque"),eK P "__repr__" 231 (.builtin "_frozen_importlib.ModuleSpec.__repr__#opaque"),eK P "__eq__" 232 (.builtin "_frozen_importlib.ModuleSpec.__eq__#opaque"),eK P "cached" 233 (.builtin "_frozen_importlib.ModuleSpec.cached#opaque"),eK P "parent" 234 (.builtin "_frozen_importlib.ModuleSpec.parent#opaque"),eK P "has_location" 235 (.builtin "_frozen_importlib.ModuleSpec.has_location#opaque"),eK P "__static_attributes__" 236 (.ref 23),eK P "__dict__" 238 (.ref 24),eK P "__weakref__" 240 (.ref 25),eK P "__hash__" 241 .none] 13
noncomputable def o22(P:Params):Obj:=⟨(.type "type"),none,(.cls {name:=(S "ModuleSpec"),bases:=[(.type "object")],mro:=[(.ref 22),(.type "object")],ns:=21,qualname:=(S "ModuleSpec"),hasDict:=true,slotNames:=[],subclasses:=[],abstract:=false,collection:=none,hasDel:=false}),#[]⟩
def o23(P:Params):=tU #[(tx "_cached" 219),(tx "_set_fileattr" 220),(tx "_uninitialized_submodules" 221),(tx "loader" 222),(tx "loader_state" 223),(tx "name" 224),(tx "origin" 225),(tx "submodule_search_locations" 226)]
noncomputable def o24(P:Params):Obj:=⟨(.type "getset_descriptor"),none,(.fields #[(tx "__dict__" 237),(.ref 22),(.builtin "function.__dict__"),(.builtin "function.__dict__#set")]),#[]⟩
noncomputable def o25(P:Params):Obj:=⟨(.type "getset_descriptor"),none,(.fields #[(tx "__weakref__" 239),(.ref 22),(.builtin "ExceptionGroup.__weakref__"),.none]),#[]⟩
noncomputable def o26(P:Params):Obj:=⟨(.ref 22),(some 20),.plain,#[]⟩
noncomputable def o27(P:Params):Obj:=⟨.none,none,(.seq #[(iz 11),(.str (PySem.Str.mk #[6,247,8,95,95,110,97,109,101,95,95,6,246,4,95,115,114,101,6,248,7,95,95,100,111,99,95,95,0,6,250,11,95,95,112,97,99,107,97,103,101,95,95,6,249,0,6,251,10,95,95,108,111,97,100,101,114,95,95,4,0,0,14,6,252,8,95,95,115,112,101,99,95,95,4,0,0,26,6,253,7,99,111,109,112,105,108,101,9,12,95,115,114,101,46,99,111,109,112,105,108,101,6,254,8,116,101,109,112,108,97,116,101,9,13,95,115,114,101,46,116,101,109,112,108,97,116,101,6,255,11,103,101,116,99,111,100,101,115,105,122,101,9,16,95,115,114,101,46,103,101,116,99,111,100,101,115,105,122,101,6,256,13,97,115,99,105,105,95,105,115,99,97,115,101,100,9,18,95,115,114,101,46,97,115,99,105,105,95,105,115,99,97,115,101,100,6,257,15,117,110,105,99,111,100,101,95,105,115,99,97,115,101,100,9,20,95,115,114,101,46,117,110,105,99,111,100,101,95,105,115,99,97,115,101,100,6,258,13,97,115,99,105,105,95,116,111,108,111,119,101,114,9,18,95,115,114,101,46,97,115,99,105,105,95,116,111,108,111,119,101,114,6,259,15,117,110,105,99,111,100,101,95,116,111,108,111,119,101,114,9,20,95,115,114,101,46,117,110,105,99,111,100,101,95,116,111,108,111,119,101,114,6,261,5,77,65,71,73,67,4,260,0,20230612,6,263,8,67,79,68,69,83,73,90,69,4,262,0,4,6,265,9,77,65,88,82,69,80,69,65,84,4,264,0,4294967295,6,267,9,77,65,88,71,82,79,85,80,83,4,266,0,1073741823,6,269,9,99,111,112,121,114,105,103,104,116,6,268,53,32,83,82,69,32,50,46,50,46,50,32,67,111,112,121,114,105,103,104,116,32,40,99,41,32,49,57,57,55,45,50,48,48,50,32,98,121,32,83,101,99,114,101,116,32,76,97,98,115,32,65,66,32]) 0),(.bool true),(.bool false),(tx "_sre" 271)] 0),#[]⟩
def o28(P:Params):=tU #[]
def o30(P:Params):=cO "<module>" "<module>" 277 1 0 0 0 28 false .none .none .none 280
noncomputable def o31(P:Params):Obj:=⟨(.type "frame"),none,.plain,#[(some (.ref 30)),(some (.ref 3)),(some (.ref 3)),none,(some (tx "__main__" 164)),none,(some (.ref 0))]⟩
def o32(P:Params):=tU #[]
def o33(P:Params):=fO #[]
def o34(P:Params):=tU #[(tx "k" 285)]
def o35(P:Params):=tU #[]
def o36(P:Params):=fN "_wall" "_wall" (stN 1)
def o37(P:Params):=cO "_wall" "_wall" 282 2 1 0 3 32 true (.ref 34) (.ref 35) (.ref 36) 286
def o38(P:Params):=fF "_wall" "_wall" (stN 1) [] .none (tx "__main__" 164) 37 .none
noncomputable def o39(P:Params):Obj:=⟨(.type "list"),none,(.seq #[(.int 173 291),(.int 847 292),(.int 6150 293),(.int 6155 294),(.int 6156 295),(.int 6157 296),(.int 8203 297),(.int 8204 298),(.int 8205 299),(.int 8288 300),(.int 65279 301)] 0),#[]⟩
noncomputable def o40(P:Params):Obj:=⟨(.type "range"),none,(.fields #[(.int 65024 302),(.int 65040 303),(.int 1 304)]),#[]⟩
noncomputable def o41(P:Params):Obj:=⟨(.type "list"),none,(.seq #[(.int 65024 307),(.int 65025 308),(.int 65026 309),(.int 65027 310),(.int 65028 311),(.int 65029 312),(.int 65030 313),(.int 65031 314),(.int 65032 315),(.int 65033 316),(.int 65034 317),(.int 65035 318),(.int 65036 319),(.int 65037 320),(.int 65038 321),(.int 65039 322)] 18),#[]⟩
noncomputable def o42(P:Params):Obj:=⟨(.type "range_iterator"),none,(.fields #[(iz 65040),(iz 0),(iz 1)]),#[]⟩
def o43(P:Params):=tU #[]
noncomputable def o44(P:Params):Obj:=⟨(.type "StopIteration"),none,(.fields #[(.ref 43),.none,.none,.none,(.bool false),.none]),#[]⟩
noncomputable def o45(P:Params):Obj:=⟨(.type "list"),none,(.seq #[(.int 173 291),(.int 847 292),(.int 6150 293),(.int 6155 294),(.int 6156 295),(.int 6157 296),(.int 8203 297),(.int 8204 298),(.int 8205 299),(.int 8288 300),(.int 65279 301),(.int 65024 307),(.int 65025 308),(.int 65026 309),(.int 65027 310),(.int 65028 311),(.int 65029 312),(.int 65030 313),(.int 65031 314),(.int 65032 315),(.int 65033 316),(.int 65034 317),(.int 65035 318),(.int 65036 319),(.int 65037 320),(.int 65038 321),(.int 65039 322)] 0),#[]⟩
noncomputable def o46(P:Params):Obj:=⟨(.type "set"),none,(.set #[(65024,(.int 65024 307)),(65025,(.int 65025 308)),(65026,(.int 65026 309)),(65027,(.int 65027 310)),(65028,(.int 65028 311)),(65029,(.int 65029 312)),(6150,(.int 6150 293)),(65030,(.int 65030 313)),(65031,(.int 65031 314)),(65032,(.int 65032 315)),(65033,(.int 65033 316)),(6155,(.int 6155 294)),(6156,(.int 6156 295)),(6157,(.int 6157 296)),(8203,(.int 8203 297)),(8204,(.int 8204 298)),(8205,(.int 8205 299)),(65034,(.int 65034 317)),(65035,(.int 65035 318)),(65036,(.int 65036 319)),(65037,(.int 65037 320)),(65038,(.int 65038 321)),(65039,(.int 65039 322)),(173,(.int 173 291)),(847,(.int 847 292)),(8288,(.int 8288 300)),(65279,(.int 65279 301))] 29 ⟨127,#[0,1,2,3,4,5,6,7,8,9,10,11,12,13,14,15,16,17,18,19,20,21,22,45,79,96,127],#[],0, !(P.followText "set-order"),2,true⟩),#[]⟩
noncomputable def o47(P:Params):Obj:=⟨(.type "list_iterator"),none,(.fields #[.none,(iz 27)]),#[]⟩
def o48(P:Params):=tU #[]
noncomputable def o49(P:Params):Obj:=⟨(.type "StopIteration"),none,(.fields #[(.ref 48),.none,.none,.none,(.bool false),.none]),#[]⟩
def o50(P:Params):=tU #[]
def o51(P:Params):=fO #[]
def o52(P:Params):=tU #[(tx "code" 354)]
def o53(P:Params):=tU #[]
def o54(P:Params):=fN "in_table_b1" "in_table_b1" (stN 4)
def o55(P:Params):=cO "in_table_b1" "in_table_b1" 351 7 1 0 3 50 true (.ref 52) (.ref 53) (.ref 54) 355
def o56(P:Params):=fF "in_table_b1" "in_table_b1" (stN 4) [] .none (tx "cpy313.stringprep" 289) 55 .none
def o96(P:Params):=tU #[]
def o97(P:Params):=fO #[]
def o98(P:Params):=tU #[(tx "code" 2312),(tx "r" 2313)]
def o99(P:Params):=tU #[]
def o100(P:Params):=fN "map_table_b3" "map_table_b3" (stN 6)
def o101(P:Params):=cO "map_table_b3" "map_table_b3" 2309 10 1 0 3 96 true (.ref 98) (.ref 99) (.ref 100) 2314
def o102(P:Params):=fF "map_table_b3" "map_table_b3" (stN 6) [] .none (tx "cpy313.stringprep" 289) 101 .none
def o103(P:Params):=tU #[]
def o104(P:Params):=fO #[]
def o105(P:Params):=tU #[(tx "code" 2320),(tx "c" 2321)]
def o106(P:Params):=tU #[]
def o107(P:Params):=fN "in_table_c4" "in_table_c4" (stN 7)
def o108(P:Params):=cO "in_table_c4" "in_table_c4" 2317 15 1 0 3 103 true (.ref 105) (.ref 106) (.ref 107) 2322
def o109(P:Params):=fF "in_table_c4" "in_table_c4" (stN 7) [] .none (tx "cpy313.stringprep" 289) 108 .none
noncomputable def o110(P:Params):Obj:=⟨(.type "range"),none,(.fields #[(.int 65529 2325),(.int 65534 2326),(.int 1 2327)]),#[]⟩
noncomputable def o111(P:Params):Obj:=⟨(.type "set"),none,(.set #[(65529,(.int 65529 2328)),(65530,(.int 65530 2330)),(65531,(.int 65531 2332)),(65532,(.int 65532 2334)),(65533,(.int 65533 2336))] 6 ⟨31,#[25,26,27,28,29],#[],0, !(P.followText "set-order"),1,true⟩),#[]⟩
noncomputable def o112(P:Params):Obj:=⟨(.type "range_iterator"),none,(.fields #[(iz 65534),(iz 0),(iz 1)]),#[]⟩
def o113(P:Params):=tU #[]
noncomputable def o114(P:Params):Obj:=⟨(.type "StopIteration"),none,(.fields #[(.ref 113),.none,.none,.none,(.bool false),.none]),#[]⟩
def o115(P:Params):=tU #[]
def o116(P:Params):=fO #[]
def o117(P:Params):=tU #[(tx "code" 2342)]
def o118(P:Params):=tU #[]
def o119(P:Params):=fN "in_table_c6" "in_table_c6" (stN 9)
def o120(P:Params):=cO "in_table_c6" "in_table_c6" 2339 23 1 0 3 115 true (.ref 117) (.ref 118) (.ref 119) 2343
def o121(P:Params):=fF "in_table_c6" "in_table_c6" (stN 9) [] .none (tx "cpy313.stringprep" 289) 120 .none
noncomputable def o122(P:Params):Obj:=⟨(.type "range"),none,(.fields #[(.int 12272 2346),(.int 12284 2347),(.int 1 2348)]),#[]⟩
noncomputable def o123(P:Params):Obj:=⟨(.type "set"),none,(.set #[(12272,(.int 12272 2349)),(12273,(.int 12273 2351)),(12274,(.int 12274 2353)),(12275,(.int 12275 2355)),(12276,(.int 12276 2357)),(12277,(.int 12277 2359)),(12278,(.int 12278 2361)),(12279,(.int 12279 2363)),(12280,(.int 12280 2365)),(12281,(.int 12281 2367)),(12282,(.int 12282 2369)),(12283,(.int 12283 2371))] 13 ⟨31,#[16,17,18,19,20,21,22,23,24,25,26,27],#[],0, !(P.followText "set-order"),1,true⟩),#[]⟩
noncomputable def o124(P:Params):Obj:=⟨(.type "range_iterator"),none,(.fields #[(iz 12284),(iz 0),(iz 1)]),#[]⟩
def o125(P:Params):=tU #[]
noncomputable def o126(P:Params):Obj:=⟨(.type "StopIteration"),none,(.fields #[(.ref 125),.none,.none,.none,(.bool false),.none]),#[]⟩
def o127(P:Params):=tU #[]
def o128(P:Params):=fO #[]
def o129(P:Params):=tU #[(tx "code" 2377)]
def o130(P:Params):=tU #[]
def o131(P:Params):=fN "in_table_c7" "in_table_c7" (stN 11)
def o132(P:Params):=cO "in_table_c7" "in_table_c7" 2374 26 1 0 3 127 true (.ref 129) (.ref 130) (.ref 131) 2378
def o133(P:Params):=fF "in_table_c7" "in_table_c7" (stN 11) [] .none (tx "cpy313.stringprep" 289) 132 .none
noncomputable def o134(P:Params):Obj:=⟨(.type "list"),none,(.seq #[(.int 832 2381),(.int 833 2382),(.int 8206 2383),(.int 8207 2384)] 0),#[]⟩
noncomputable def o135(P:Params):Obj:=⟨(.type "range"),none,(.fields #[(.int 8234 2385),(.int 8239 2386),(.int 1 2387)]),#[]⟩
noncomputable def o136(P:Params):Obj:=⟨(.type "list"),none,(.seq #[(.int 8234 2390),(.int 8235 2391),(.int 8236 2392),(.int 8237 2393),(.int 8238 2394)] 7),#[]⟩
noncomputable def o137(P:Params):Obj:=⟨(.type "range_iterator"),none,(.fields #[(iz 8239),(iz 0),(iz 1)]),#[]⟩
def o138(P:Params):=tU #[]
noncomputable def o139(P:Params):Obj:=⟨(.type "StopIteration"),none,(.fields #[(.ref 138),.none,.none,.none,(.bool false),.none]),#[]⟩
noncomputable def o140(P:Params):Obj:=⟨(.type "list"),none,(.seq #[(.int 832 2381),(.int 833 2382),(.int 8206 2383),(.int 8207 2384),(.int 8234 2390),(.int 8235 2391),(.int 8236 2392),(.int 8237 2393),(.int 8238 2394)] 0),#[]⟩
noncomputable def o141(P:Params):Obj:=⟨(.type "range"),none,(.fields #[(.int 8298 2395),(.int 8304 2396),(.int 1 2397)]),#[]⟩
noncomputable def o142(P:Params):Obj:=⟨(.type "list"),none,(.seq #[(.int 8298 2400),(.int 8299 2401),(.int 8300 2402),(.int 8301 2403),(.int 8302 2404),(.int 8303 2405)] 8),#[]⟩
noncomputable def o143(P:Params):Obj:=⟨(.type "range_iterator"),none,(.fields #[(iz 8304),(iz 0),(iz 1)]),#[]⟩
def o144(P:Params):=tU #[]
noncomputable def o145(P:Params):Obj:=⟨(.type "StopIteration"),none,(.fields #[(.ref 144),.none,.none,.none,(.bool false),.none]),#[]⟩
noncomputable def o146(P:Params):Obj:=⟨(.type "list"),none,(.seq #[(.int 832 2381),(.int 833 2382),(.int 8206 2383),(.int 8207 2384),(.int 8234 2390),(.int 8235 2391),(.int 8236 2392),(.int 8237 2393),(.int 8238 2394),(.int 8298 2400),(.int 8299 2401),(.int 8300 2402),(.int 8301 2403),(.int 8302 2404),(.int 8303 2405)] 0),#[]⟩
noncomputable def o147(P:Params):Obj:=⟨(.type "set"),none,(.set #[(832,(.int 832 2381)),(833,(.int 833 2382)),(8234,(.int 8234 2390)),(8235,(.int 8235 2391)),(8236,(.int 8236 2392)),(8237,(.int 8237 2393)),(8206,(.int 8206 2383)),(8207,(.int 8207 2384)),(8238,(.int 8238 2394)),(8298,(.int 8298 2400)),(8299,(.int 8299 2401)),(8300,(.int 8300 2402)),(8301,(.int 8301 2403)),(8302,(.int 8302 2404)),(8303,(.int 8303 2405))] 16 ⟨31,#[0,1,10,11,12,13,14,15,16,17,18,19,20,21,22],#[],0, !(P.followText "set-order"),1,true⟩),#[]⟩
noncomputable def o148(P:Params):Obj:=⟨(.type "list_iterator"),none,(.fields #[.none,(iz 15)]),#[]⟩
def o149(P:Params):=tU #[]
noncomputable def o150(P:Params):Obj:=⟨(.type "StopIteration"),none,(.fields #[(.ref 149),.none,.none,.none,(.bool false),.none]),#[]⟩
def o151(P:Params):=tU #[]
def o152(P:Params):=fO #[]
def o153(P:Params):=tU #[(tx "code" 2425)]
def o154(P:Params):=tU #[]
def o155(P:Params):=fN "in_table_c8" "in_table_c8" (stN 13)
def o156(P:Params):=cO "in_table_c8" "in_table_c8" 2422 29 1 0 3 151 true (.ref 153) (.ref 154) (.ref 155) 2426
def o157(P:Params):=fF "in_table_c8" "in_table_c8" (stN 13) [] .none (tx "cpy313.stringprep" 289) 156 .none
noncomputable def o158(P:Params):Obj:=⟨(.type "list"),none,(.seq #[(.int 917505 2429)] 0),#[]⟩
noncomputable def o159(P:Params):Obj:=⟨(.type "range"),none,(.fields #[(.int 917536 2430),(.int 917632 2431),(.int 1 2432)]),#[]⟩
noncomputable def o160(P:Params):Obj:=⟨(.type "list"),none,(.seq #[(.int 917536 2435),(.int 917537 2436),(.int 917538 2437),(.int 917539 2438),(.int 917540 2439),(.int 917541 2440),(.int 917542 2441),(.int 917543 2442),(.int 917544 2443),(.int 917545 2444),(.int 917546 2445),(.int 917547 2446),(.int 917548 2447),(.int 917549 2448),(.int 917550 2449),(.int 917551 2450),(.int 917552 2451),(.int 917553 2452),(.int 917554 2453),(.int 917555 2454),(.int 917556 2455),(.int 917557 2456),(.int 917558 2457),(.int 917559 2458),(.int 917560 2459),(.int 917561 2460),(.int 917562 2461),(.int 917563 2462),(.int 917564 2463),(.int 917565 2464),(.int 917566 2465),(.int 917567 2466),(.int 917568 2467),(.int 917569 2468),(.int 917570 2469),(.int 917571 2470),(.int 917572 2471),(.int 917573 2472),(.int 917574 2473),(.int 917575 2474),(.int 917576 2475),(.int 917577 2476),(.int 917578 2477),(.int 917579 2478),(.int 917580 2479),(.int 917581 2480),(.int 917582 2481),(.int 917583 2482),(.int 917584 2483),(.int 917585 2484),(.int 917586 2485),(.int 917587 2486),(.int 917588 2487),(.int 917589 2488),(.int 917590 2489),(.int 917591 2490),(.int 917592 2491),(.int 917593 2492),(.int 917594 2493),(.int 917595 2494),(.int 917596 2495),(.int 917597 2496),(.int 917598 2497),(.int 917599 2498),(.int 917600 2499),(.int 917601 2500),(.int 917602 2501),(.int 917603 2502),(.int 917604 2503),(.int 917605 2504),(.int 917606 2505),(.int 917607 2506),(.int 917608 2507),(.int 917609 2508),(.int 917610 2509),(.int 917611 2510),(.int 917612 2511),(.int 917613 2512),(.int 917614 2513),(.int 917615 2514),(.int 917616 2515),(.int 917617 2516),(.int 917618 2517),(.int 917619 2518),(.int 917620 2519),(.int 917621 2520),(.int 917622 2521),(.int 917623 2522),(.int 917624 2523),(.int 917625 2524),(.int 917626 2525),(.int 917627 2526),(.int 917628 2527),(.int 917629 2528),(.int 917630 2529),(.int 917631 2530)] 98),#[]⟩
noncomputable def o161(P:Params):Obj:=⟨(.type "range_iterator"),none,(.fields #[(iz 917632),(iz 0),(iz 1)]),#[]⟩
def o162(P:Params):=tU #[]
noncomputable def o163(P:Params):Obj:=⟨(.type "StopIteration"),none,(.fields #[(.ref 162),.none,.none,.none,(.bool false),.none]),#[]⟩
noncomputable def o164(P:Params):Obj:=⟨(.type "list"),none,(.seq #[(.int 917505 2429),(.int 917536 2435),(.int 917537 2436),(.int 917538 2437),(.int 917539 2438),(.int 917540 2439),(.int 917541 2440),(.int 917542 2441),(.int 917543 2442),(.int 917544 2443),(.int 917545 2444),(.int 917546 2445),(.int 917547 2446),(.int 917548 2447),(.int 917549 2448),(.int 917550 2449),(.int 917551 2450),(.int 917552 2451),(.int 917553 2452),(.int 917554 2453),(.int 917555 2454),(.int 917556 2455),(.int 917557 2456),(.int 917558 2457),(.int 917559 2458),(.int 917560 2459),(.int 917561 2460),(.int 917562 2461),(.int 917563 2462),(.int 917564 2463),(.int 917565 2464),(.int 917566 2465),(.int 917567 2466),(.int 917568 2467),(.int 917569 2468),(.int 917570 2469),(.int 917571 2470),(.int 917572 2471),(.int 917573 2472),(.int 917574 2473),(.int 917575 2474),(.int 917576 2475),(.int 917577 2476),(.int 917578 2477),(.int 917579 2478),(.int 917580 2479),(.int 917581 2480),(.int 917582 2481),(.int 917583 2482),(.int 917584 2483),(.int 917585 2484),(.int 917586 2485),(.int 917587 2486),(.int 917588 2487),(.int 917589 2488),(.int 917590 2489),(.int 917591 2490),(.int 917592 2491),(.int 917593 2492),(.int 917594 2493),(.int 917595 2494),(.int 917596 2495),(.int 917597 2496),(.int 917598 2497),(.int 917599 2498),(.int 917600 2499),(.int 917601 2500),(.int 917602 2501),(.int 917603 2502),(.int 917604 2503),(.int 917605 2504),(.int 917606 2505),(.int 917607 2506),(.int 917608 2507),(.int 917609 2508),(.int 917610 2509),(.int 917611 2510),(.int 917612 2511),(.int 917613 2512),(.int 917614 2513),(.int 917615 2514),(.int 917616 2515),(.int 917617 2516),(.int 917618 2517),(.int 917619 2518),(.int 917620 2519),(.int 917621 2520),(.int 917622 2521),(.int 917623 2522),(.int 917624 2523),(.int 917625 2524),(.int 917626 2525),(.int 917627 2526),(.int 917628 2527),(.int 917629 2528),(.int 917630 2529),(.int 917631 2530)] 0),#[]⟩
def o169(P:Params):=tU #[]
def o170(P:Params):=fO #[]
def o171(P:Params):=tU #[(tx "code" 2632)]
def o172(P:Params):=tU #[]
def o173(P:Params):=fN "in_table_c9" "in_table_c9" (stN 15)
def o174(P:Params):=cO "in_table_c9" "in_table_c9" 2629 32 1 0 3 169 true (.ref 171) (.ref 172) (.ref 173) 2633
def o175(P:Params):=fF "in_table_c9" "in_table_c9" (stN 15) [] .none (tx "cpy313.stringprep" 289) 174 .none
def o176(P:Params):=tU #[(.int 0 2638),.none]
def o177(P:Params):=dO #[eK P "key" 2639 .none] 1
def o178(P:Params):=tU #[]
def o179(P:Params):=fO #[]
def o180(P:Params):=tU #[(tx "a" 2643),(tx "x" 2644),(tx "lo" 2645),(tx "hi" 2646),(tx "key" 2647)]
def o181(P:Params):=tU #[]
def o182(P:Params):=fN "insort_right" "insort_right" (stN 17)
def o183(P:Params):=cO "insort_right" "insort_right" 2640 35 4 1 3 178 true (.ref 180) (.ref 181) (.ref 182) 2648
noncomputable def o184(P:Params):Obj:=⟨(.type "function"),none,(.func {name:=(S "insort_right"),qualname:=(S "insort_right"),params:=fdA (stN 17),body:=.stmts (fdB (stN 17)),scope:=fdS (stN 17),globals:=3,closure:=[],defaults:=(.ref 176),kwdefaults:=(.ref 177),doc:=.none,pyModule:=(tx "cpy313.bisect" 2636),annotations:=none,code:=(.ref 183),closureTuple:=.none,builtins:=0}),#[]⟩
def o185(P:Params):=tU #[(.int 0 2651),.none]
def o186(P:Params):=dO #[eK P "key" 2652 .none] 1
def o187(P:Params):=tU #[]
def o188(P:Params):=fO #[]
def o189(P:Params):=tU #[(tx "a" 2656),(tx "x" 2657),(tx "lo" 2658),(tx "hi" 2659),(tx "key" 2660),(tx "mid" 2661)]
def o190(P:Params):=tU #[]
def o191(P:Params):=fN "bisect_right" "bisect_right" (stN 18)
def o192(P:Params):=cO "bisect_right" "bisect_right" 2653 41 4 1 3 187 true (.ref 189) (.ref 190) (.ref 191) 2662
noncomputable def o193(P:Params):Obj:=⟨(.type "function"),none,(.func {name:=(S "bisect_right"),qualname:=(S "bisect_right"),params:=fdA (stN 18),body:=.stmts (fdB (stN 18)),scope:=fdS (stN 18),globals:=3,closure:=[],defaults:=(.ref 185),kwdefaults:=(.ref 186),doc:=.none,pyModule:=(tx "cpy313.bisect" 2636),annotations:=none,code:=(.ref 192),closureTuple:=.none,builtins:=0}),#[]⟩
def o194(P:Params):=tU #[(.int 0 2665),.none]
def o195(P:Params):=dO #[eK P "key" 2666 .none] 1
def o196(P:Params):=tU #[]
def o197(P:Params):=fO #[]
def o198(P:Params):=tU #[(tx "a" 2670),(tx "x" 2671),(tx "lo" 2672),(tx "hi" 2673),(tx "key" 2674),(tx "mid" 2675)]
def o199(P:Params):=tU #[]
def o200(P:Params):=fN "bisect_left" "bisect_left" (stN 19)
def o201(P:Params):=cO "bisect_left" "bisect_left" 2667 61 4 1 3 196 true (.ref 198) (.ref 199) (.ref 200) 2676
noncomputable def o202(P:Params):Obj:=⟨(.type "function"),none,(.func {name:=(S "bisect_left"),qualname:=(S "bisect_left"),params:=fdA (stN 19),body:=.stmts (fdB (stN 19)),scope:=fdS (stN 19),globals:=3,closure:=[],defaults:=(.ref 194),kwdefaults:=(.ref 195),doc:=.none,pyModule:=(tx "cpy313.bisect" 2636),annotations:=none,code:=(.ref 201),closureTuple:=.none,builtins:=0}),#[]⟩
def o203(P:Params):=tU #[]
noncomputable def o204(P:Params):Obj:=⟨(.type "builtin_function_or_method"),none,(.fields #[(.builtin "type.__prepare__"),(.type "type")]),#[]⟩
def o205(P:Params):=dO #[eK P "__module__" 2688 (tx "cpy313.netrc" 2679),eK P "__qualname__" 2690 (tx "_netrclex" 2689),eK P "__firstlineno__" 2692 (.int 82 2691),eK P "__init__" 2700 (.ref 216),eK P "_read_char" 2708 (.ref 223),eK P "get_token" 2718 (.ref 230),eK P "push_token" 2726 (.ref 237),eK P "__static_attributes__" 2731 (.ref 238)] 8
def o206(P:Params):=tU #[]
def o207(P:Params):=fO #[(iz 84),(iz 4),(.ref 215),(iz 90),(iz 4),(.ref 222),(iz 96),(iz 4),(.ref 229),(iz 123),(iz 4),(.ref 236)]
def o208(P:Params):=cO "_netrclex" "_netrclex" 2683 82 0 0 0 206 false .none .none .none 2686
noncomputable def o209(P:Params):Obj:=⟨(.type "frame"),none,.plain,#[(some (.ref 208)),(some (.ref 3)),(some (.ref 205)),none,(some (tx "cpy313.netrc" 2679)),none,(some (.ref 0))]⟩
def o210(P:Params):=tU #[]
def o211(P:Params):=fO #[]
def o212(P:Params):=tU #[(tx "self" 2696),(tx "fp" 2697)]
def o213(P:Params):=tU #[]
def o214(P:Params):=fN "__init__" "_netrclex.__init__" (stM 21 0)
def o215(P:Params):=cO "__init__" "_netrclex.__init__" 2693 84 2 0 3 210 true (.ref 212) (.ref 213) (.ref 214) 2698
def o216(P:Params):=fF "__init__" "_netrclex.__init__" (stM 21 0) [] .none (tx "cpy313.netrc" 2679) 215 .none
def o217(P:Params):=tU #[]
def o218(P:Params):=fO #[]
def o219(P:Params):=tU #[(tx "self" 2704),(tx "ch" 2705)]
def o220(P:Params):=tU #[]
def o221(P:Params):=fN "_read_char" "_netrclex._read_char" (stM 21 1)
def o222(P:Params):=cO "_read_char" "_netrclex._read_char" 2701 90 1 0 3 217 true (.ref 219) (.ref 220) (.ref 221) 2706
def o223(P:Params):=fF "_read_char" "_netrclex._read_char" (stM 21 1) [] .none (tx "cpy313.netrc" 2679) 222 .none
def o224(P:Params):=tU #[]
def o225(P:Params):=fO #[]
def o226(P:Params):=tU #[(tx "self" 2712),(tx "token" 2713),(tx "fiter" 2714),(tx "ch" 2715)]
def o227(P:Params):=tU #[]
def o228(P:Params):=fN "get_token" "_netrclex.get_token" (stM 21 2)
def o229(P:Params):=cO "get_token" "_netrclex.get_token" 2709 96 1 0 3 224 true (.ref 226) (.ref 227) (.ref 228) 2716
def o230(P:Params):=fF "get_token" "_netrclex.get_token" (stM 21 2) [] .none (tx "cpy313.netrc" 2679) 229 .none
def o231(P:Params):=tU #[]
def o232(P:Params):=fO #[]
def o233(P:Params):=tU #[(tx "self" 2722),(tx "token" 2723)]
def o234(P:Params):=tU #[]
def o235(P:Params):=fN "push_token" "_netrclex.push_token" (stM 21 3)
def o236(P:Params):=cO "push_token" "_netrclex.push_token" 2719 123 2 0 3 231 true (.ref 233) (.ref 234) (.ref 235) 2724
def o237(P:Params):=fF "push_token" "_netrclex.push_token" (stM 21 3) [] .none (tx "cpy313.netrc" 2679) 236 .none
def o238(P:Params):=tU #[(tx "instream" 2727),(tx "lineno" 2728),(tx "pushback" 2729),(tx "whitespace" 2730)]
def o239(P:Params):=dO #[eK P "__module__" 2688 (tx "cpy313.netrc" 2679),eK P "__firstlineno__" 2692 (.int 82 2691),eK P "__init__" 2700 (.ref 216),eK P "_read_char" 2708 (.ref 223),eK P "get_token" 2718 (.ref 230),eK P "push_token" 2726 (.ref 237),eK P "__static_attributes__" 2731 (.ref 238),eK P "__dict__" 2733 (.ref 241),eK P "__weakref__" 2735 (.ref 242),eK P "__doc__" 2736 .none] 4
noncomputable def o240(P:Params):Obj:=⟨(.type "type"),none,(.cls {name:=(S "_netrclex"),bases:=[(.type "object")],mro:=[(.ref 240),(.type "object")],ns:=239,qualname:=(S "_netrclex"),hasDict:=true,slotNames:=[],subclasses:=[],abstract:=false,collection:=none,hasDel:=false}),#[none,none,(some (tx "_netrclex" 2681)),(some (tx "_netrclex" 2689)),(some (.builtin "object.__new__")),(some (.bool true))]⟩
noncomputable def o241(P:Params):Obj:=⟨(.type "getset_descriptor"),none,(.fields #[(tx "__dict__" 2732),(.ref 240),(.builtin "function.__dict__"),(.builtin "function.__dict__#set")]),#[]⟩
noncomputable def o242(P:Params):Obj:=⟨(.type "getset_descriptor"),none,(.fields #[(tx "__weakref__" 2734),(.ref 240),(.builtin "ExceptionGroup.__weakref__"),.none]),#[]⟩
noncomputable def o243(P:Params):Obj:=⟨(.type "super"),none,(.fields #[(.ref 240),(.ref 240),(.ref 240)]),#[]⟩
noncomputable def o244(P:Params):Obj:=⟨(.type "builtin_function_or_method"),none,(.fields #[(.builtin "object.__init_subclass__"),(.ref 240)]),#[]⟩
noncomputable def o245(P:Params):Obj:=⟨(.type "list"),none,(.seq #[(.int 14 2744),(.int 14 2745),(.int 4 2746),(.int 1 2747),(.int 1 2748),(.int 9 2749),(.int 0 2750),(.int 4227896069 2751),(.int 939524097 2752),(.int 0 2753),(.int 0 2754),(.int 0 2755),(.int 0 2756),(.int 0 2757),(.int 0 2758),(.int 13 2759),(.int 11 2760),(.int 9 2761),(.int 0 2762),(.int 4227896069 2763),(.int 939524097 2764),(.int 0 2765),(.int 0 2766),(.int 0 2767),(.int 0 2768),(.int 0 2769),(.int 0 2770),(.int 1 2771)] 0),#[]⟩
def o246(P:Params):=dO #[] 0
def o247(P:Params):=tU #[.none]
def o248(P:Params):=tU #[(iz 14),(iz 14),(iz 4),(iz 1),(iz 1),(iz 9),(iz 0),(iz 4227896069),(iz 939524097),(iz 0),(iz 0),(iz 0),(iz 0),(iz 0),(iz 0),(iz 13),(iz 11),(iz 9),(iz 0),(iz 4227896069),(iz 939524097),(iz 0),(iz 0),(iz 0),(iz 0),(iz 0),(iz 0),(iz 1)]
noncomputable def o249(P:Params):Obj:=⟨(.type "re.Pattern"),none,(.fields #[(tx "[ \\(\\)<>@,;:\\\\\"/\\[\\]\\?=]" 2742),(.int 32 2773),(iz 0),.none,.none,(.ref 248),(iz 0)]),#[]⟩
noncomputable def o250(P:Params):Obj:=⟨(.type "list"),none,(.seq #[(.int 14 2778),(.int 10 2779),(.int 4 2780),(.int 1 2781),(.int 1 2782),(.int 22 2783),(.int 0 2784),(.int 31 2785),(.int 16 2786),(.int 127 2787),(.int 0 2788),(.int 13 2789),(.int 7 2790),(.int 22 2791),(.int 0 2792),(.int 31 2793),(.int 16 2794),(.int 127 2795),(.int 0 2796),(.int 1 2797)] 0),#[]⟩
def o251(P:Params):=dO #[] 0
def o252(P:Params):=tU #[.none]
def o253(P:Params):=tU #[(iz 14),(iz 10),(iz 4),(iz 1),(iz 1),(iz 22),(iz 0),(iz 31),(iz 16),(iz 127),(iz 0),(iz 13),(iz 7),(iz 22),(iz 0),(iz 31),(iz 16),(iz 127),(iz 0),(iz 1)]
noncomputable def o254(P:Params):Obj:=⟨(.type "re.Pattern"),none,(.fields #[(tx "[\\x00-\\x1F\\x7F]" 2776),(.int 32 2799),(iz 0),.none,.none,(.ref 253),(iz 0)]),#[]⟩
noncomputable def o255(P:Params):Obj:=⟨(.type "list"),none,(.seq #[(.int 14 2804),(.int 14 2805),(.int 4 2806),(.int 1 2807),(.int 1 2808),(.int 9 2809),(.int 4294966783 2810),(.int 0 2811),(.int 0 2812),(.int 2147483648 2813),(.int 0 2814),(.int 0 2815),(.int 0 2816),(.int 0 2817),(.int 0 2818),(.int 13 2819),(.int 11 2820),(.int 9 2821),(.int 4294966783 2822),(.int 0 2823),(.int 0 2824),(.int 2147483648 2825),(.int 0 2826),(.int 0 2827),(.int 0 2828),(.int 0 2829),(.int 0 2830),(.int 1 2831)] 0),#[]⟩
def o256(P:Params):=dO #[] 0
def o257(P:Params):=tU #[.none]
def o258(P:Params):=tU #[(iz 14),(iz 14),(iz 4),(iz 1),(iz 1),(iz 9),(iz 4294966783),(iz 0),(iz 0),(iz 2147483648),(iz 0),(iz 0),(iz 0),(iz 0),(iz 0),(iz 13),(iz 11),(iz 9),(iz 4294966783),(iz 0),(iz 0),(iz 2147483648),(iz 0),(iz 0),(iz 0),(iz 0),(iz 0),(iz 1)]
noncomputable def o259(P:Params):Obj:=⟨(.type "re.Pattern"),none,(.fields #[(tx "[\\x00-\\x08\\x0A-\\x1F\\x7F]" 2802),(.int 32 2833),(iz 0),.none,.none,(.ref 258),(iz 0)]),#[]⟩
def o260(P:Params):=tU #[.none,(.int 1 2835)]
def o261(P:Params):=tU #[]
def o262(P:Params):=fO #[]
def o263(P:Params):=tU #[(tx "param" 2839),(tx "value" 2840),(tx "quote" 2841)]
def o264(P:Params):=tU #[]
def o265(P:Params):=fN "_formatparam" "_formatparam" (stN 26)
def o266(P:Params):=cO "_formatparam" "_formatparam" 2836 129 3 0 3 261 true (.ref 263) (.ref 264) (.ref 265) 2842
def o267(P:Params):=fF "_formatparam" "_formatparam" (stN 26) [] (.ref 260) (tx "cpy313.wsgiref.headers" 2739) 266 .none
def o268(P:Params):=tU #[]
noncomputable def o269(P:Params):Obj:=⟨(.type "builtin_function_or_method"),none,(.fields #[(.builtin "type.__prepare__"),(.type "type")]),#[]⟩
def o270(P:Params):=dO #[eK P "__module__" 2852 (tx "cpy313.wsgiref.headers" 2739),eK P "__qualname__" 2854 (tx "Headers" 2853),eK P "__firstlineno__" 2856 (.int 138 2855),eK P "__init__" 2866 (.ref 282),eK P "_convert_string_type" 2876 (.ref 289),eK P "__len__" 2883 (.ref 296),eK P "__setitem__" 2892 (.ref 303),eK P "__delitem__" 2898 (.ref 308),eK P "__getitem__" 2906 (.ref 315),eK P "__contains__" 2914 (.ref 322),eK P "get_all" 2920 (.ref 327),eK P "get" 2931 (.ref 335),eK P "keys" 2937 (.ref 340),eK P "values" 2943 (.ref 345),eK P "items" 2950 (.ref 352),eK P "__repr__" 2957 (.ref 359),eK P "__str__" 2963 (.ref 364),eK P "__bytes__" 2970 (.ref 371),eK P "setdefault" 2979 (.ref 378),eK P "add_header" 2992 (.ref 385),eK P "__static_attributes__" 2994 (.ref 386)] 21
def o271(P:Params):=tU #[]
def o272(P:Params):=fO #[(iz 140),(iz 4),(.ref 281),(iz 150),(iz 4),(.ref 288),(iz 158),(iz 4),(.ref 295),(iz 161),(iz 4),(.ref 302),(iz 165),(iz 4),(.ref 307),(iz 169),(iz 4),(.ref 314),(iz 172),(iz 4),(.ref 321),(iz 175),(iz 4),(.ref 326),(iz 179),(iz 4),(.ref 334),(iz 186),(iz 4),(.ref 339),(iz 189),(iz 4),(.ref 344),(iz 192),(iz 4),(.ref 351),(iz 195),(iz 4),(.ref 358),(iz 198),(iz 4),(.ref 363),(iz 201),(iz 4),(.ref 370),(iz 204),(iz 4),(.ref 377),(iz 207),(iz 4),(.ref 384)]
def o273(P:Params):=cO "Headers" "Headers" 2847 138 0 0 0 271 false .none .none .none 2850
noncomputable def o274(P:Params):Obj:=⟨(.type "frame"),none,.plain,#[(some (.ref 273)),(some (.ref 3)),(some (.ref 270)),none,(some (tx "cpy313.wsgiref.headers" 2739)),none,(some (.ref 0))]⟩
def o275(P:Params):=tU #[.none]
def o276(P:Params):=tU #[]
def o277(P:Params):=fO #[]
def o278(P:Params):=tU #[(tx "self" 2860),(tx "headers" 2861),(tx "k" 2862),(tx "v" 2863)]
def o279(P:Params):=tU #[]
def o280(P:Params):=fN "__init__" "Headers.__init__" (stM 27 0)
def o281(P:Params):=cO "__init__" "Headers.__init__" 2857 140 2 0 3 276 true (.ref 278) (.ref 279) (.ref 280) 2864
def o282(P:Params):=fF "__init__" "Headers.__init__" (stM 27 0) [] (.ref 275) (tx "cpy313.wsgiref.headers" 2739) 281 .none
def o283(P:Params):=tU #[]
def o284(P:Params):=fO #[]
def o285(P:Params):=tU #[(tx "self" 2870),(tx "value" 2871),(tx "name" 2872),(tx "regex" 2873)]
def o286(P:Params):=tU #[]
def o287(P:Params):=fN "_convert_string_type" "Headers._convert_string_type" (stM 27 1)
def o288(P:Params):=cO "_convert_string_type" "Headers._convert_string_type" 2867 150 2 1 3 283 true (.ref 285) (.ref 286) (.ref 287) 2874
def o289(P:Params):=fF "_convert_string_type" "Headers._convert_string_type" (stM 27 1) [] .none (tx "cpy313.wsgiref.headers" 2739) 288 .none
def o290(P:Params):=tU #[]
def o291(P:Params):=fO #[]
def o292(P:Params):=tU #[(tx "self" 2880)]
def o293(P:Params):=tU #[]
def o294(P:Params):=fN "__len__" "Headers.__len__" (stM 27 2)
def o295(P:Params):=cO "__len__" "Headers.__len__" 2877 158 1 0 3 290 true (.ref 292) (.ref 293) (.ref 294) 2881
def o296(P:Params):=fF "__len__" "Headers.__len__" (stM 27 2) [] .none (tx "cpy313.wsgiref.headers" 2739) 295 .none
def o297(P:Params):=tU #[]
def o298(P:Params):=fO #[]
def o299(P:Params):=tU #[(tx "self" 2887),(tx "name" 2888),(tx "val" 2889)]
def o300(P:Params):=tU #[]
def o301(P:Params):=fN "__setitem__" "Headers.__setitem__" (stM 27 3)
def o302(P:Params):=cO "__setitem__" "Headers.__setitem__" 2884 161 3 0 3 297 true (.ref 299) (.ref 300) (.ref 301) 2890
def o303(P:Params):=fF "__setitem__" "Headers.__setitem__" (stM 27 3) [] .none (tx "cpy313.wsgiref.headers" 2739) 302 .none
def o304(P:Params):=tU #[]
def o305(P:Params):=fO #[]
def o306(P:Params):=fN "__delitem__" "Headers.__delitem__" (stM 27 4)
def o307(P:Params):=cO "__delitem__" "Headers.__delitem__" 2893 165 2 0 3 304 true .none .none (.ref 306) 2896
def o308(P:Params):=fF "__delitem__" "Headers.__delitem__" (stM 27 4) [] .none (tx "cpy313.wsgiref.headers" 2739) 307 .none
def o309(P:Params):=tU #[]
def o310(P:Params):=fO #[]
def o311(P:Params):=tU #[(tx "self" 2902),(tx "name" 2903)]
def o312(P:Params):=tU #[]
def o313(P:Params):=fN "__getitem__" "Headers.__getitem__" (stM 27 5)
def o314(P:Params):=cO "__getitem__" "Headers.__getitem__" 2899 169 2 0 3 309 true (.ref 311) (.ref 312) (.ref 313) 2904
def o315(P:Params):=fF "__getitem__" "Headers.__getitem__" (stM 27 5) [] .none (tx "cpy313.wsgiref.headers" 2739) 314 .none
def o316(P:Params):=tU #[]
def o317(P:Params):=fO #[]
def o318(P:Params):=tU #[(tx "self" 2910),(tx "name" 2911)]
def o319(P:Params):=tU #[]
def o320(P:Params):=fN "__contains__" "Headers.__contains__" (stM 27 6)
def o321(P:Params):=cO "__contains__" "Headers.__contains__" 2907 172 2 0 3 316 true (.ref 318) (.ref 319) (.ref 320) 2912
def o322(P:Params):=fF "__contains__" "Headers.__contains__" (stM 27 6) [] .none (tx "cpy313.wsgiref.headers" 2739) 321 .none
def o323(P:Params):=tU #[]
def o324(P:Params):=fO #[]
def o325(P:Params):=fN "get_all" "Headers.get_all" (stM 27 7)
def o326(P:Params):=cO "get_all" "Headers.get_all" 2915 175 2 0 3 323 true .none .none (.ref 325) 2918
def o327(P:Params):=fF "get_all" "Headers.get_all" (stM 27 7) [] .none (tx "cpy313.wsgiref.headers" 2739) 326 .none
def o328(P:Params):=tU #[.none]
def o329(P:Params):=tU #[]
def o330(P:Params):=fO #[]
def o331(P:Params):=tU #[(tx "self" 2924),(tx "name" 2925),(tx "default" 2926),(tx "k" 2927),(tx "v" 2928)]
def o332(P:Params):=tU #[]
def o333(P:Params):=fN "get" "Headers.get" (stM 27 8)
def o334(P:Params):=cO "get" "Headers.get" 2921 179 3 0 3 329 true (.ref 331) (.ref 332) (.ref 333) 2929
def o335(P:Params):=fF "get" "Headers.get" (stM 27 8) [] (.ref 328) (tx "cpy313.wsgiref.headers" 2739) 334 .none
def o336(P:Params):=tU #[]
def o337(P:Params):=fO #[]
def o338(P:Params):=fN "keys" "Headers.keys" (stM 27 9)
def o339(P:Params):=cO "keys" "Headers.keys" 2932 186 1 0 3 336 true .none .none (.ref 338) 2935
def o340(P:Params):=fF "keys" "Headers.keys" (stM 27 9) [] .none (tx "cpy313.wsgiref.headers" 2739) 339 .none
def o341(P:Params):=tU #[]
def o342(P:Params):=fO #[]
def o343(P:Params):=fN "values" "Headers.values" (stM 27 10)
def o344(P:Params):=cO "values" "Headers.values" 2938 189 1 0 3 341 true .none .none (.ref 343) 2941
def o345(P:Params):=fF "values" "Headers.values" (stM 27 10) [] .none (tx "cpy313.wsgiref.headers" 2739) 344 .none
def o346(P:Params):=tU #[]
def o347(P:Params):=fO #[]
def o348(P:Params):=tU #[(tx "self" 2947)]
def o349(P:Params):=tU #[]
def o350(P:Params):=fN "items" "Headers.items" (stM 27 11)
def o351(P:Params):=cO "items" "Headers.items" 2944 192 1 0 3 346 true (.ref 348) (.ref 349) (.ref 350) 2948
def o352(P:Params):=fF "items" "Headers.items" (stM 27 11) [] .none (tx "cpy313.wsgiref.headers" 2739) 351 .none
def o353(P:Params):=tU #[]
def o354(P:Params):=fO #[]
def o355(P:Params):=tU #[(tx "self" 2954)]
def o356(P:Params):=tU #[]
def o357(P:Params):=fN "__repr__" "Headers.__repr__" (stM 27 12)
def o358(P:Params):=cO "__repr__" "Headers.__repr__" 2951 195 1 0 3 353 true (.ref 355) (.ref 356) (.ref 357) 2955
def o359(P:Params):=fF "__repr__" "Headers.__repr__" (stM 27 12) [] .none (tx "cpy313.wsgiref.headers" 2739) 358 .none
def o360(P:Params):=tU #[]
def o361(P:Params):=fO #[]
def o362(P:Params):=fN "__str__" "Headers.__str__" (stM 27 13)
def o363(P:Params):=cO "__str__" "Headers.__str__" 2958 198 1 0 3 360 true .none .none (.ref 362) 2961
def o364(P:Params):=fF "__str__" "Headers.__str__" (stM 27 13) [] .none (tx "cpy313.wsgiref.headers" 2739) 363 .none
def o365(P:Params):=tU #[]
def o366(P:Params):=fO #[]
def o367(P:Params):=tU #[(tx "self" 2967)]
def o368(P:Params):=tU #[]
def o369(P:Params):=fN "__bytes__" "Headers.__bytes__" (stM 27 14)
def o370(P:Params):=cO "__bytes__" "Headers.__bytes__" 2964 201 1 0 3 365 true (.ref 367) (.ref 368) (.ref 369) 2968
def o371(P:Params):=fF "__bytes__" "Headers.__bytes__" (stM 27 14) [] .none (tx "cpy313.wsgiref.headers" 2739) 370 .none
def o372(P:Params):=tU #[]
def o373(P:Params):=fO #[]
def o374(P:Params):=tU #[(tx "self" 2974),(tx "name" 2975),(tx "value" 2976)]
def o375(P:Params):=tU #[]
def o376(P:Params):=fN "setdefault" "Headers.setdefault" (stM 27 15)
def o377(P:Params):=cO "setdefault" "Headers.setdefault" 2971 204 3 0 3 372 true (.ref 374) (.ref 375) (.ref 376) 2977
def o378(P:Params):=fF "setdefault" "Headers.setdefault" (stM 27 15) [] .none (tx "cpy313.wsgiref.headers" 2739) 377 .none
def o379(P:Params):=tU #[]
def o380(P:Params):=fO #[]
def o381(P:Params):=tU #[(tx "self" 2983),(tx "_name" 2984),(tx "_value" 2985),(tx "_params" 2986),(tx "parts" 2987),(tx "k" 2988),(tx "v" 2989)]
def o382(P:Params):=tU #[]
def o383(P:Params):=fN "add_header" "Headers.add_header" (stM 27 16)
def o384(P:Params):=cO "add_header" "Headers.add_header" 2980 207 3 0 11 379 true (.ref 381) (.ref 382) (.ref 383) 2990
def o385(P:Params):=fF "add_header" "Headers.add_header" (stM 27 16) [] .none (tx "cpy313.wsgiref.headers" 2739) 384 .none
def o386(P:Params):=tU #[(tx "_headers" 2993)]
def o387(P:Params):=dO #[eK P "__module__" 2852 (tx "cpy313.wsgiref.headers" 2739),eK P "__firstlineno__" 2856 (.int 138 2855),eK P "__init__" 2866 (.ref 282),eK P "_convert_string_type" 2876 (.ref 289),eK P "__len__" 2883 (.ref 296),eK P "__setitem__" 2892 (.ref 303),eK P "__delitem__" 2898 (.ref 308),eK P "__getitem__" 2906 (.ref 315),eK P "__contains__" 2914 (.ref 322),eK P "get_all" 2920 (.ref 327),eK P "get" 2931 (.ref 335),eK P "keys" 2937 (.ref 340),eK P "values" 2943 (.ref 345),eK P "items" 2950 (.ref 352),eK P "__repr__" 2957 (.ref 359),eK P "__str__" 2963 (.ref 364),eK P "__bytes__" 2970 (.ref 371),eK P "setdefault" 2979 (.ref 378),eK P "add_header" 2992 (.ref 385),eK P "__static_attributes__" 2994 (.ref 386),eK P "__dict__" 2996 (.ref 389),eK P "__weakref__" 2998 (.ref 390),eK P "__doc__" 2999 .none] 4
noncomputable def o388(P:Params):Obj:=⟨(.type "type"),none,(.cls {name:=(S "Headers"),bases:=[(.type "object")],mro:=[(.ref 388),(.type "object")],ns:=387,qualname:=(S "Headers"),hasDict:=true,slotNames:=[],subclasses:=[],abstract:=false,collection:=none,hasDel:=false}),#[none,none,(some (tx "Headers" 2845)),(some (tx "Headers" 2853)),(some (.builtin "object.__new__")),(some (.bool true))]⟩
noncomputable def o389(P:Params):Obj:=⟨(.type "getset_descriptor"),none,(.fields #[(tx "__dict__" 2995),(.ref 388),(.builtin "function.__dict__"),(.builtin "function.__dict__#set")]),#[]⟩
noncomputable def o390(P:Params):Obj:=⟨(.type "getset_descriptor"),none,(.fields #[(tx "__weakref__" 2997),(.ref 388),(.builtin "ExceptionGroup.__weakref__"),.none]),#[]⟩
noncomputable def o391(P:Params):Obj:=⟨(.type "super"),none,(.fields #[(.ref 388),(.ref 388),(.ref 388)]),#[]⟩
noncomputable def o392(P:Params):Obj:=⟨(.type "builtin_function_or_method"),none,(.fields #[(.builtin "object.__init_subclass__"),(.ref 388)]),#[]⟩
def o393(P:Params):=tU #[]
def o394(P:Params):=fO #[]
def o395(P:Params):=tU #[(tx "text" 3007),(tx "_law_read" 3008),(tx "stand" 3009)]
def o396(P:Params):=tU #[(tx "text" 3010),(tx "place" 3011)]
def o397(P:Params):=fN "_law_lexer" "_law_lexer" (stN 29)
def o398(P:Params):=cO "_law_lexer" "_law_lexer" 3004 221 1 0 3 393 true (.ref 395) (.ref 396) (.ref 397) 3012
def o399(P:Params):=fF "_law_lexer" "_law_lexer" (stN 29) [] .none (tx "law_uq0029_01" 3002) 398 .none
def o400(P:Params):=tU #[]
def o401(P:Params):=fO #[]
def o402(P:Params):=fN "_law_name" "_law_name" (stN 30)
def o403(P:Params):=cO "_law_name" "_law_name" 3015 231 1 0 3 400 true .none .none (.ref 402) 3018
def o404(P:Params):=fF "_law_name" "_law_name" (stN 30) [] .none (tx "law_uq0029_01" 3002) 403 .none
def o405(P:Params):=tU #[]
def o406(P:Params):=fO #[]
def o407(P:Params):=tU #[(tx "drawn" 3024),(tx "spellings" 3025),(tx "page" 3026),(tx "k" 3027),(tx "n" 3028),(tx "marks" 3029)]
def o408(P:Params):=tU #[]
def o409(P:Params):=fN "_law_page" "_law_page" (stN 31)
def o410(P:Params):=cO "_law_page" "_law_page" 3021 244 2 0 3 405 true (.ref 407) (.ref 408) (.ref 409) 3030
def o411(P:Params):=fF "_law_page" "_law_page" (stN 31) [] .none (tx "law_uq0029_01" 3002) 410 .none
def o412(P:Params):=tU #[]
def o413(P:Params):=fO #[]
def o414(P:Params):=fN "_law_prepared" "_law_prepared" (stN 32)
def o415(P:Params):=cO "_law_prepared" "_law_prepared" 3033 251 1 0 3 412 true .none .none (.ref 414) 3036
def o416(P:Params):=fF "_law_prepared" "_law_prepared" (stN 32) [] .none (tx "law_uq0029_01" 3002) 415 .none
def o417(P:Params):=tU #[]
def o418(P:Params):=fO #[]
def o419(P:Params):=tU #[(tx "word" 3042),(tx "sign" 3043)]
def o420(P:Params):=tU #[]
def o421(P:Params):=fN "_law_bar" "_law_bar" (stN 33)
def o422(P:Params):=cO "_law_bar" "_law_bar" 3039 253 1 0 3 417 true (.ref 419) (.ref 420) (.ref 421) 3044
def o423(P:Params):=fF "_law_bar" "_law_bar" (stN 33) [] .none (tx "law_uq0029_01" 3002) 422 .none
def o424(P:Params):=tU #[]
def o425(P:Params):=fO #[]
def o426(P:Params):=fN "_law_found" "_law_found" (stN 34)
def o427(P:Params):=cO "_law_found" "_law_found" 3047 266 3 0 3 424 true .none .none (.ref 426) 3050
def o428(P:Params):=fF "_law_found" "_law_found" (stN 34) [] .none (tx "law_uq0029_01" 3002) 427 .none
def o429(P:Params):=tU #[]
def o430(P:Params):=fO #[]
def o431(P:Params):=fN "_law_due" "_law_due" (stN 35)
def o432(P:Params):=cO "_law_due" "_law_due" 3053 278 4 0 3 429 true .none .none (.ref 431) 3056
def o433(P:Params):=fF "_law_due" "_law_due" (stN 35) [] .none (tx "law_uq0029_01" 3002) 432 .none
def o434(P:Params):=tU #[]
def o435(P:Params):=fO #[]
def o436(P:Params):=fN "law" "law" (stN 36)
def o437(P:Params):=cO "law" "law" 3059 285 1 0 3 434 true .none .none (.ref 436) 3062
def o438(P:Params):=fF "law" "law" (stN 36) [] .none (tx "law_uq0029_01" 3002) 437 .none
def en0(P:Params):=eK P "__name__" 165 (tx "__main__" 164)
def en1(P:Params):=eK P "__doc__" 166 .none
def en2(P:Params):=eK P "__package__" 167 .none
def en3(P:Params):=eK P "__loader__" 168 (.builtin "__main__.__loader__#opaque")
def en4(P:Params):=eK P "__spec__" 169 .none
def en5(P:Params):=eK P "__annotations__" 170 (.ref 6)
def en6(P:Params):=eK P "__builtins__" 171 (.ref 4)
def en7(P:Params):=eK P "__file__" 173 (tx "/claim/cut.py" 172)
def en8(P:Params):=eK P "__cached__" 174 .none
def en9(P:Params):=eK P "_sre" 275 (.ref 12)
def en10(P:Params):=eK P "_wall" 288 (.ref 38)
def en11(P:Params):=eK P "__name__" 165 (tx "cpy313.stringprep" 289)
def en12(P:Params):=eK P "b1_set" 350 (.ref 46)
def en13(P:Params):=eK P "in_table_b1" 357 (.ref 56)
def en14(P:Params):=eK P "b3_exceptions" 2308 (.ref 57)
def en15(P:Params):=eK P "map_table_b3" 2316 (.ref 102)
def en16(P:Params):=eK P "in_table_c4" 2324 (.ref 109)
def en17(P:Params):=eK P "c6_set" 2338 (.ref 111)
def en18(P:Params):=eK P "in_table_c6" 2345 (.ref 121)
def en19(P:Params):=eK P "c7_set" 2373 (.ref 123)
def en20(P:Params):=eK P "in_table_c7" 2380 (.ref 133)
def en21(P:Params):=eK P "c8_set" 2421 (.ref 147)
def en22(P:Params):=eK P "in_table_c8" 2428 (.ref 157)
def en23(P:Params):=eK P "c9_set" 2628 (.ref 165)
def en24(P:Params):=eK P "in_table_c9" 2635 (.ref 175)
def en26(P:Params):=eK P "insort_right" 2650 (.ref 184)
def en27(P:Params):=eK P "bisect_right" 2664 (.ref 193)
def en28(P:Params):=eK P "bisect_left" 2678 (.ref 202)
def en29(P:Params):=eK P "__name__" 165 (tx "cpy313.netrc" 2679)
def en30(P:Params):=eK P "_netrclex" 2738 (.ref 240)
def en31(P:Params):=eK P "__name__" 165 (tx "cpy313.wsgiref.headers" 2739)
def en32(P:Params):=eK P "tspecials" 2774 (.ref 249)
def en33(P:Params):=eK P "_name_disallowed_re" 2800 (.ref 254)
def en34(P:Params):=eK P "_value_disallowed_re" 2834 (.ref 259)
def en35(P:Params):=eK P "_formatparam" 2844 (.ref 267)
def en36(P:Params):=eK P "Headers" 3001 (.ref 388)
def en37(P:Params):=eK P "__name__" 165 (tx "law_uq0029_01" 3002)
def en38(P:Params):=eK P "_law_lexer" 3014 (.ref 399)
def en39(P:Params):=eK P "_law_name" 3020 (.ref 404)
def en40(P:Params):=eK P "_law_page" 3032 (.ref 411)
def en41(P:Params):=eK P "_law_prepared" 3038 (.ref 416)
def en42(P:Params):=eK P "_law_bar" 3046 (.ref 423)
def en43(P:Params):=eK P "_law_found" 3052 (.ref 428)
def en44(P:Params):=eK P "_law_due" 3058 (.ref 433)
def en45(P:Params):=eK P "law" 3064 (.ref 438)
def VY(P:Params):=dO #[en0 P,en1 P,en2 P,en3 P,en4 P,en5 P,en6 P,en7 P,en8 P,en9 P] 10
def t29_pre(P:Params):=fO #[]
def m3_1(P:Params):=dO #[en11 P,en1 P,en2 P,en3 P,en4 P,en5 P,en6 P,en7 P,en8 P,en9 P,en10 P] 11
def t29_1(P:Params):=fO #[(iz 2),(iz 0),(.ref 37)]
def m3_2(P:Params):=dO #[en11 P,en1 P,en2 P,en3 P,en4 P,en5 P,en6 P,en7 P,en8 P,en9 P,en10 P,en12 P] 12
def t29_2(P:Params):=fO #[(iz 2),(iz 0),(.ref 37)]
def m3_3(P:Params):=dO #[en11 P,en1 P,en2 P,en3 P,en4 P,en5 P,en6 P,en7 P,en8 P,en9 P,en10 P,en12 P,en13 P] 13
def t29_3(P:Params):=fO #[(iz 2),(iz 0),(.ref 37),(iz 7),(iz 0),(.ref 55)]
def m3_4(P:Params):=dO #[en11 P,en1 P,en2 P,en3 P,en4 P,en5 P,en6 P,en7 P,en8 P,en9 P,en10 P,en12 P,en13 P,en14 P] 14
def t29_4(P:Params):=fO #[(iz 2),(iz 0),(.ref 37),(iz 7),(iz 0),(.ref 55)]
def m3_6(P:Params):=dO #[en11 P,en1 P,en2 P,en3 P,en4 P,en5 P,en6 P,en7 P,en8 P,en9 P,en10 P,en12 P,en13 P,en14 P,en15 P,en16 P] 16
def t29_6(P:Params):=fO #[(iz 2),(iz 0),(.ref 37),(iz 7),(iz 0),(.ref 55),(iz 10),(iz 0),(.ref 101),(iz 15),(iz 0),(.ref 108)]
def m3_7(P:Params):=dO #[en11 P,en1 P,en2 P,en3 P,en4 P,en5 P,en6 P,en7 P,en8 P,en9 P,en10 P,en12 P,en13 P,en14 P,en15 P,en16 P,en17 P] 17
def t29_7(P:Params):=fO #[(iz 2),(iz 0),(.ref 37),(iz 7),(iz 0),(.ref 55),(iz 10),(iz 0),(.ref 101),(iz 15),(iz 0),(.ref 108)]
def m3_8(P:Params):=dO #[en11 P,en1 P,en2 P,en3 P,en4 P,en5 P,en6 P,en7 P,en8 P,en9 P,en10 P,en12 P,en13 P,en14 P,en15 P,en16 P,en17 P,en18 P] 18
def t29_8(P:Params):=fO #[(iz 2),(iz 0),(.ref 37),(iz 7),(iz 0),(.ref 55),(iz 10),(iz 0),(.ref 101),(iz 15),(iz 0),(.ref 108),(iz 23),(iz 0),(.ref 120)]
def m3_9(P:Params):=dO #[en11 P,en1 P,en2 P,en3 P,en4 P,en5 P,en6 P,en7 P,en8 P,en9 P,en10 P,en12 P,en13 P,en14 P,en15 P,en16 P,en17 P,en18 P,en19 P] 19
def t29_9(P:Params):=fO #[(iz 2),(iz 0),(.ref 37),(iz 7),(iz 0),(.ref 55),(iz 10),(iz 0),(.ref 101),(iz 15),(iz 0),(.ref 108),(iz 23),(iz 0),(.ref 120)]
def m3_10(P:Params):=dO #[en11 P,en1 P,en2 P,en3 P,en4 P,en5 P,en6 P,en7 P,en8 P,en9 P,en10 P,en12 P,en13 P,en14 P,en15 P,en16 P,en17 P,en18 P,en19 P,en20 P] 20
def t29_10(P:Params):=fO #[(iz 2),(iz 0),(.ref 37),(iz 7),(iz 0),(.ref 55),(iz 10),(iz 0),(.ref 101),(iz 15),(iz 0),(.ref 108),(iz 23),(iz 0),(.ref 120),(iz 26),(iz 0),(.ref 132)]
def m3_11(P:Params):=dO #[en11 P,en1 P,en2 P,en3 P,en4 P,en5 P,en6 P,en7 P,en8 P,en9 P,en10 P,en12 P,en13 P,en14 P,en15 P,en16 P,en17 P,en18 P,en19 P,en20 P,en21 P] 21
def t29_11(P:Params):=fO #[(iz 2),(iz 0),(.ref 37),(iz 7),(iz 0),(.ref 55),(iz 10),(iz 0),(.ref 101),(iz 15),(iz 0),(.ref 108),(iz 23),(iz 0),(.ref 120),(iz 26),(iz 0),(.ref 132)]
def m3_12(P:Params):=dO #[en11 P,en1 P,en2 P,en3 P,en4 P,en5 P,en6 P,en7 P,en8 P,en9 P,en10 P,en12 P,en13 P,en14 P,en15 P,en16 P,en17 P,en18 P,en19 P,en20 P,en21 P,en22 P] 22
def t29_12(P:Params):=fO #[(iz 2),(iz 0),(.ref 37),(iz 7),(iz 0),(.ref 55),(iz 10),(iz 0),(.ref 101),(iz 15),(iz 0),(.ref 108),(iz 23),(iz 0),(.ref 120),(iz 26),(iz 0),(.ref 132),(iz 29),(iz 0),(.ref 156)]
def m3_13(P:Params):=dO #[en11 P,en1 P,en2 P,en3 P,en4 P,en5 P,en6 P,en7 P,en8 P,en9 P,en10 P,en12 P,en13 P,en14 P,en15 P,en16 P,en17 P,en18 P,en19 P,en20 P,en21 P,en22 P,en23 P] 23
def t29_13(P:Params):=fO #[(iz 2),(iz 0),(.ref 37),(iz 7),(iz 0),(.ref 55),(iz 10),(iz 0),(.ref 101),(iz 15),(iz 0),(.ref 108),(iz 23),(iz 0),(.ref 120),(iz 26),(iz 0),(.ref 132),(iz 29),(iz 0),(.ref 156)]
def m3_19(P:Params):=dO #[en29 P,en1 P,en2 P,en3 P,en4 P,en5 P,en6 P,en7 P,en8 P,en9 P,en10 P,en12 P,en13 P,en14 P,en15 P,en16 P,en17 P,en18 P,en19 P,en20 P,en21 P,en22 P,en23 P,en24 P,en26 P,en27 P,en28 P] 27
def t29_19(P:Params):=fO #[(iz 2),(iz 0),(.ref 37),(iz 7),(iz 0),(.ref 55),(iz 10),(iz 0),(.ref 101),(iz 15),(iz 0),(.ref 108),(iz 23),(iz 0),(.ref 120),(iz 26),(iz 0),(.ref 132),(iz 29),(iz 0),(.ref 156),(iz 32),(iz 0),(.ref 174),(iz 35),(iz 0),(.ref 183),(iz 41),(iz 0),(.ref 192),(iz 61),(iz 0),(.ref 201)]
def m3_21(P:Params):=dO #[en31 P,en1 P,en2 P,en3 P,en4 P,en5 P,en6 P,en7 P,en8 P,en9 P,en10 P,en12 P,en13 P,en14 P,en15 P,en16 P,en17 P,en18 P,en19 P,en20 P,en21 P,en22 P,en23 P,en24 P,en26 P,en27 P,en28 P,en30 P] 28
def t29_21(P:Params):=fO #[(iz 2),(iz 0),(.ref 37),(iz 7),(iz 0),(.ref 55),(iz 10),(iz 0),(.ref 101),(iz 15),(iz 0),(.ref 108),(iz 23),(iz 0),(.ref 120),(iz 26),(iz 0),(.ref 132),(iz 29),(iz 0),(.ref 156),(iz 32),(iz 0),(.ref 174),(iz 35),(iz 0),(.ref 183),(iz 41),(iz 0),(.ref 192),(iz 61),(iz 0),(.ref 201),(iz 82),(iz 0),(.ref 208)]
def m3_25(P:Params):=dO #[en31 P,en1 P,en2 P,en3 P,en4 P,en5 P,en6 P,en7 P,en8 P,en9 P,en10 P,en12 P,en13 P,en14 P,en15 P,en16 P,en17 P,en18 P,en19 P,en20 P,en21 P,en22 P,en23 P,en24 P,en26 P,en27 P,en28 P,en30 P,en32 P,en33 P,en34 P,en35 P] 32
def t29_25(P:Params):=fO #[(iz 2),(iz 0),(.ref 37),(iz 7),(iz 0),(.ref 55),(iz 10),(iz 0),(.ref 101),(iz 15),(iz 0),(.ref 108),(iz 23),(iz 0),(.ref 120),(iz 26),(iz 0),(.ref 132),(iz 29),(iz 0),(.ref 156),(iz 32),(iz 0),(.ref 174),(iz 35),(iz 0),(.ref 183),(iz 41),(iz 0),(.ref 192),(iz 61),(iz 0),(.ref 201),(iz 82),(iz 0),(.ref 208),(iz 129),(iz 0),(.ref 266)]
def m3_26(P:Params):=dO #[en31 P,en1 P,en2 P,en3 P,en4 P,en5 P,en6 P,en7 P,en8 P,en9 P,en10 P,en12 P,en13 P,en14 P,en15 P,en16 P,en17 P,en18 P,en19 P,en20 P,en21 P,en22 P,en23 P,en24 P,en26 P,en27 P,en28 P,en30 P,en32 P,en33 P,en34 P,en35 P,en36 P] 33
def t29_26(P:Params):=fO #[(iz 2),(iz 0),(.ref 37),(iz 7),(iz 0),(.ref 55),(iz 10),(iz 0),(.ref 101),(iz 15),(iz 0),(.ref 108),(iz 23),(iz 0),(.ref 120),(iz 26),(iz 0),(.ref 132),(iz 29),(iz 0),(.ref 156),(iz 32),(iz 0),(.ref 174),(iz 35),(iz 0),(.ref 183),(iz 41),(iz 0),(.ref 192),(iz 61),(iz 0),(.ref 201),(iz 82),(iz 0),(.ref 208),(iz 129),(iz 0),(.ref 266),(iz 138),(iz 0),(.ref 273)]
def m3_35(P:Params):=dO #[en37 P,en1 P,en2 P,en3 P,en4 P,en5 P,en6 P,en7 P,en8 P,en9 P,en10 P,en12 P,en13 P,en14 P,en15 P,en16 P,en17 P,en18 P,en19 P,en20 P,en21 P,en22 P,en23 P,en24 P,en26 P,en27 P,en28 P,en30 P,en32 P,en33 P,en34 P,en35 P,en36 P,en38 P,en39 P,en40 P,en41 P,en42 P,en43 P,en44 P,en45 P] 41
def t29_35(P:Params):=fO #[(iz 2),(iz 0),(.ref 37),(iz 7),(iz 0),(.ref 55),(iz 10),(iz 0),(.ref 101),(iz 15),(iz 0),(.ref 108),(iz 23),(iz 0),(.ref 120),(iz 26),(iz 0),(.ref 132),(iz 29),(iz 0),(.ref 156),(iz 32),(iz 0),(.ref 174),(iz 35),(iz 0),(.ref 183),(iz 41),(iz 0),(.ref 192),(iz 61),(iz 0),(.ref 201),(iz 82),(iz 0),(.ref 208),(iz 129),(iz 0),(.ref 266),(iz 138),(iz 0),(.ref 273),(iz 221),(iz 0),(.ref 398),(iz 231),(iz 0),(.ref 403),(iz 244),(iz 0),(.ref 410),(iz 251),(iz 0),(.ref 415),(iz 253),(iz 0),(.ref 422),(iz 266),(iz 0),(.ref 427),(iz 278),(iz 0),(.ref 432),(iz 285),(iz 0),(.ref 437)]
def Zl(P:Params):List Obj:=[o0 P,o1 P,o2 P]
def Zq(P:Params):List Obj:=[o4 P,o5 P,o6 P,o7 P,o8 P,o9 P,o10 P,o11 P,o12 P,o13 P,o14 P,o15 P,o16 P,o17 P,o18 P,o19 P,o20 P,o21 P,o22 P,o23 P,o24 P,o25 P,o26 P,o27 P,o28 P]
def Yk(P:Params)(g:Nat→Obj):List Obj:=[o30 P,o31 P]
def Ve(P:Params)(g:Nat→Obj):List Obj:=Zl P++VY P::(Zq P++t29_pre P::(Yk P g))
def ZD(P:Params)(g:Nat→Obj):List Obj:=[o32 P,o33 P,o34 P,o35 P,o36 P,o37 P,o38 P]
def L_1(P:Params)(g:Nat→Obj):List Obj:=Zl P++m3_1 P::(Zq P++t29_1 P::(Yk P g++ZD P g))
def ZJ(P:Params)(g:Nat→Obj):List Obj:=[o39 P,o40 P,o41 P,o42 P,o43 P,o44 P,o45 P,o46 P,o47 P,o48 P,o49 P]
def L_2(P:Params)(g:Nat→Obj):List Obj:=Zl P++m3_2 P::(Zq P++t29_2 P::(Yk P g++ZD P g++ZJ P g))
def ZT(P:Params)(g:Nat→Obj):List Obj:=[o50 P,o51 P,o52 P,o53 P,o54 P,o55 P,o56 P]
def L_3(P:Params)(g:Nat→Obj):List Obj:=Zl P++m3_3 P::(Zq P++t29_3 P::(Yk P g++ZD P g++ZJ P g++ZT P g))
def Jc(P:Params)(g:Nat→Obj):List Obj:=[g 57,g 58,g 59,g 60,g 61,g 62,g 63,g 64,g 65,g 66,g 67,g 68,g 69,g 70,g 71,g 72,g 73,g 74,g 75,g 76,g 77,g 78,g 79,g 80,g 81,g 82,g 83,g 84,g 85,g 86,g 87,g 88,g 89,g 90,g 91,g 92,g 93,g 94,g 95]
def L_4(P:Params)(g:Nat→Obj):List Obj:=Zl P++m3_4 P::(Zq P++t29_4 P::(Yk P g++ZD P g++ZJ P g++ZT P g++Jc P g))
def Jn(P:Params)(g:Nat→Obj):List Obj:=[o96 P,o97 P,o98 P,o99 P,o100 P,o101 P,o102 P,o103 P,o104 P,o105 P,o106 P,o107 P,o108 P,o109 P]
def L_6(P:Params)(g:Nat→Obj):List Obj:=Zl P++m3_6 P::(Zq P++t29_6 P::(Yk P g++ZD P g++ZJ P g++ZT P g++Jc P g++Jn P g))
def JE(P:Params)(g:Nat→Obj):List Obj:=[o110 P,o111 P,o112 P,o113 P,o114 P]
def L_7(P:Params)(g:Nat→Obj):List Obj:=Zl P++m3_7 P::(Zq P++t29_7 P::(Yk P g++ZD P g++ZJ P g++ZT P g++Jc P g++Jn P g++JE P g))
def JJ(P:Params)(g:Nat→Obj):List Obj:=[o115 P,o116 P,o117 P,o118 P,o119 P,o120 P,o121 P]
def L_8(P:Params)(g:Nat→Obj):List Obj:=Zl P++m3_8 P::(Zq P++t29_8 P::(Yk P g++ZD P g++ZJ P g++ZT P g++Jc P g++Jn P g++JE P g++JJ P g))
def Ku(P:Params)(g:Nat→Obj):List Obj:=[o122 P,o123 P,o124 P,o125 P,o126 P]
def L_9(P:Params)(g:Nat→Obj):List Obj:=Zl P++m3_9 P::(Zq P++t29_9 P::(Yk P g++ZD P g++ZJ P g++ZT P g++Jc P g++Jn P g++JE P g++JJ P g++Ku P g))
def Jv(P:Params)(g:Nat→Obj):List Obj:=[o127 P,o128 P,o129 P,o130 P,o131 P,o132 P,o133 P]
def L_10(P:Params)(g:Nat→Obj):List Obj:=Zl P++m3_10 P::(Zq P++t29_10 P::(Yk P g++ZD P g++ZJ P g++ZT P g++Jc P g++Jn P g++JE P g++JJ P g++Ku P g++Jv P g))
def JK(P:Params)(g:Nat→Obj):List Obj:=[o134 P,o135 P,o136 P,o137 P,o138 P,o139 P,o140 P,o141 P,o142 P,o143 P,o144 P,o145 P,o146 P,o147 P,o148 P,o149 P,o150 P]
def L_11(P:Params)(g:Nat→Obj):List Obj:=Zl P++m3_11 P::(Zq P++t29_11 P::(Yk P g++ZD P g++ZJ P g++ZT P g++Jc P g++Jn P g++JE P g++JJ P g++Ku P g++Jv P g++JK P g))
def Kx(P:Params)(g:Nat→Obj):List Obj:=[o151 P,o152 P,o153 P,o154 P,o155 P,o156 P,o157 P]
def L_12(P:Params)(g:Nat→Obj):List Obj:=Zl P++m3_12 P::(Zq P++t29_12 P::(Yk P g++ZD P g++ZJ P g++ZT P g++Jc P g++Jn P g++JE P g++JJ P g++Ku P g++Jv P g++JK P g++Kx P g))
def Uc(P:Params)(g:Nat→Obj):List Obj:=[o158 P,o159 P,o160 P,o161 P,o162 P,o163 P,o164 P,g 165,g 166,g 167,g 168]
def L_13(P:Params)(g:Nat→Obj):List Obj:=Zl P++m3_13 P::(Zq P++t29_13 P::(Yk P g++ZD P g++ZJ P g++ZT P g++Jc P g++Jn P g++JE P g++JJ P g++Ku P g++Jv P g++JK P g++Kx P g++Uc P g))
def UO(P:Params)(g:Nat→Obj):List Obj:=[o169 P,o170 P,o171 P,o172 P,o173 P,o174 P,o175 P,o176 P,o177 P,o178 P,o179 P,o180 P,o181 P,o182 P,o183 P,o184 P,o185 P,o186 P,o187 P,o188 P,o189 P,o190 P,o191 P,o192 P,o193 P,o194 P,o195 P,o196 P,o197 P,o198 P,o199 P,o200 P,o201 P,o202 P]
def L_19(P:Params)(g:Nat→Obj):List Obj:=Zl P++m3_19 P::(Zq P++t29_19 P::(Yk P g++ZD P g++ZJ P g++ZT P g++Jc P g++Jn P g++JE P g++JJ P g++Ku P g++Jv P g++JK P g++Kx P g++Uc P g++UO P g))
def Vm(P:Params)(g:Nat→Obj):List Obj:=[o203 P,o204 P,o205 P,o206 P,o207 P,o208 P,o209 P,o210 P,o211 P,o212 P,o213 P,o214 P,o215 P,o216 P,o217 P,o218 P,o219 P,o220 P,o221 P,o222 P,o223 P,o224 P,o225 P,o226 P,o227 P,o228 P,o229 P,o230 P,o231 P,o232 P,o233 P,o234 P,o235 P,o236 P,o237 P,o238 P,o239 P,o240 P,o241 P,o242 P,o243 P,o244 P]
def L_21(P:Params)(g:Nat→Obj):List Obj:=Zl P++m3_21 P::(Zq P++t29_21 P::(Yk P g++ZD P g++ZJ P g++ZT P g++Jc P g++Jn P g++JE P g++JJ P g++Ku P g++Jv P g++JK P g++Kx P g++Uc P g++UO P g++Vm P g))
def VS(P:Params)(g:Nat→Obj):List Obj:=[o245 P,o246 P,o247 P,o248 P,o249 P,o250 P,o251 P,o252 P,o253 P,o254 P,o255 P,o256 P,o257 P,o258 P,o259 P,o260 P,o261 P,o262 P,o263 P,o264 P,o265 P,o266 P,o267 P]
def L_25(P:Params)(g:Nat→Obj):List Obj:=Zl P++m3_25 P::(Zq P++t29_25 P::(Yk P g++ZD P g++ZJ P g++ZT P g++Jc P g++Jn P g++JE P g++JJ P g++Ku P g++Jv P g++JK P g++Kx P g++Uc P g++UO P g++Vm P g++VS P g))
def seg_26(P:Params)(g:Nat→Obj):List Obj:=[o268 P,o269 P,o270 P,o271 P,o272 P,o273 P,o274 P,o275 P,o276 P,o277 P,o278 P,o279 P,o280 P,o281 P,o282 P,o283 P,o284 P,o285 P,o286 P,o287 P,o288 P,o289 P,o290 P,o291 P,o292 P,o293 P,o294 P,o295 P,o296 P,o297 P,o298 P,o299 P,o300 P,o301 P,o302 P,o303 P,o304 P,o305 P,o306 P,o307 P,o308 P,o309 P,o310 P,o311 P,o312 P,o313 P,o314 P,o315 P,o316 P,o317 P,o318 P,o319 P,o320 P,o321 P,o322 P,o323 P,o324 P,o325 P,o326 P,o327 P,o328 P,o329 P,o330 P,o331 P,o332 P,o333 P,o334 P,o335 P,o336 P,o337 P,o338 P,o339 P,o340 P,o341 P,o342 P,o343 P,o344 P,o345 P,o346 P,o347 P,o348 P,o349 P,o350 P,o351 P,o352 P,o353 P,o354 P,o355 P,o356 P,o357 P,o358 P,o359 P,o360 P,o361 P,o362 P,o363 P,o364 P,o365 P,o366 P,o367 P,o368 P,o369 P,o370 P,o371 P,o372 P,o373 P,o374 P,o375 P,o376 P,o377 P,o378 P,o379 P,o380 P,o381 P,o382 P,o383 P,o384 P,o385 P,o386 P,o387 P,o388 P,o389 P,o390 P,o391 P,o392 P]
def L_26(P:Params)(g:Nat→Obj):List Obj:=Zl P++m3_26 P::(Zq P++t29_26 P::(Yk P g++ZD P g++ZJ P g++ZT P g++Jc P g++Jn P g++JE P g++JJ P g++Ku P g++Jv P g++JK P g++Kx P g++Uc P g++UO P g++Vm P g++VS P g++seg_26 P g))
def seg_35(P:Params)(g:Nat→Obj):List Obj:=[o393 P,o394 P,o395 P,o396 P,o397 P,o398 P,o399 P,o400 P,o401 P,o402 P,o403 P,o404 P,o405 P,o406 P,o407 P,o408 P,o409 P,o410 P,o411 P,o412 P,o413 P,o414 P,o415 P,o416 P,o417 P,o418 P,o419 P,o420 P,o421 P,o422 P,o423 P,o424 P,o425 P,o426 P,o427 P,o428 P,o429 P,o430 P,o431 P,o432 P,o433 P,o434 P,o435 P,o436 P,o437 P,o438 P]
def L_35(P:Params)(g:Nat→Obj):List Obj:=Zl P++m3_35 P::(Zq P++t29_35 P::(Yk P g++ZD P g++ZJ P g++ZT P g++Jc P g++Jn P g++JE P g++JJ P g++Ku P g++Jv P g++JK P g++Kx P g++Uc P g++UO P g++Vm P g++VS P g++seg_26 P g++seg_35 P g))
noncomputable def evens{α:Type}:List α→List α
 | []=>[]
 | [a]=>[a]
 |a::_::r=>a::evens r
noncomputable def odds{α:Type}:List α→List α
 | []=>[]
 | [_]=>[]
 |_::b::r=>b::odds r
noncomputable def ofL:Nat→List Obj→BT
 |0,_=>.nil
 |_+1,[]=>.nil
 |n+1,o::r=>.node o (ofL n (evens r)) (ofL n (odds r))
def env0:Env:={scope:=pw.main.scope,locals:=mainNs,globals:=mainNs,cells:=[],code:=.ref 30,frame:=some 31}
def cE:Code:=.body (behindTheImports pw) env0
def ctx0(q:Pos):Ctx:=⟨cE,none,none,[(.builtin "claim.caller" {},q)],none⟩
def stmts(a b:Nat):List Stmt:=(pw.main.body.drop (a+1)).take (b+1-a)
def L_0(P:Params):List Obj:=Zl P++VY P::[o4 P,o5 P,o6 P,o7 P,o8 P,o9 P,o10 P,o11 P,o12 P,o13 P,o14 P,o15 P,o16 P,o17 P,o18 P,o19 P,o20 P,o21 P,o22 P,o23 P,o24 P,o25 P,o26 P,o27 P]
def L_0a(P:Params):List Obj:=L_0 P++[o28 P,t29_pre P,o30 P]
def ctxC:Ctx:=⟨.builtin "claim.caller" {},none,none,[],none⟩
theorem run_code(P:Params)(p:Pos):ev (denote treeTable) pw P 1000 ctxC p ((moduleCode pw.main).bind fun v=>.pure (.done (.ret v))) (ofL 12 (L_0 P)) 28 276=some (.ok (.ret (.ref 30)),ofL 12 (L_0a P),31,282):=by
 kernel_rfl
theorem run_frame(P:Params)(g:Nat→Obj)(p:Pos):ev (denote treeTable) pw P 1000 ctxC p ((newBodyFrame (.ref 30) mainNs mainNs).bind fun v=>.pure (.done (.ret (.ref v)))) (ofL 12 (L_0a P)) 31 282=some (.ok (.ret (.ref 31)),ofL 12 (Ve P g),32,282):=by
 kernel_rfl
theorem run_block(P:Params)(g:Nat→Obj)(p q:Pos):ev (denote treeTable) pw P 1000 (ctx0 q) p ((blockStart (behindTheImports pw) env0).bind fun _=>.pure (.done .next)) (ofL 12 (Ve P g)) 32 282=some (.ok .next,ofL 12 (Ve P g),32,282):=by
 kernel_rfl
theorem run_1(w:World)(g:Nat→Obj)(p q:Pos):ev (denote treeTable) pw w.params 100000 (ctx0 q) p ((execs (stmts 0 1) env0).bind fun f=>.pure (.done f)) (ofL 12 (Ve w.params g)) 32 282=some (.ok .next,ofL 12 (L_1 w.params g),39,291):=by
 rw[PySem.W.Fast.te11892475500146522536,PySem.W.Fast.te14364793385576792824,PySem.W.Fast.te12563942051412417395]
 kernel_rfl
theorem run_2(w:World):∀(g:Nat→Obj) (p q:Pos),ev (denote treeTable) pw w.params 100000 (ctx0 q) p ((execs (stmts 2 2) env0).bind fun f=>.pure (.done f)) (ofL 12 (L_1 w.params g)) 39 291=some (.ok .next,ofL 12 (L_2 w.params g),50,351):=by
 rw[PySem.W.Fast.te11892475500146522536,PySem.W.Fast.te14364793385576792824,PySem.W.Fast.te12563942051412417395]
 refine byRow2 "special-get-raises" (P:=fun w=>∀(g:Nat→Obj) (p q:Pos),ev (PySem.W.Fast.tw11892475500146522536 PySem.W.Fast.tw14364793385576792824) pw w.params 100000 (ctx0 q) p ((PySem.W.Fast.tw12563942051412417395 (stmts 2 2) env0).bind fun f=>.pure (.done f)) (ofL 12 (L_1 w.params g)) 39 291=some (.ok .next,ofL 12 (L_2 w.params g),50,351)) ?_ ?_ w<;>(intro w g p q;kernel_rfl)
theorem run_3(w:World)(g:Nat→Obj)(p q:Pos):ev (denote treeTable) pw w.params 100000 (ctx0 q) p ((execs (stmts 3 3) env0).bind fun f=>.pure (.done f)) (ofL 12 (L_2 w.params g)) 50 351=some (.ok .next,ofL 12 (L_3 w.params g),57,358):=by
 rw[PySem.W.Fast.te11892475500146522536,PySem.W.Fast.te14364793385576792824,PySem.W.Fast.te12563942051412417395]
 kernel_rfl
theorem run_6(w:World)(g:Nat→Obj)(p q:Pos):ev (denote treeTable) pw w.params 100000 (ctx0 q) p ((execs (stmts 5 6) env0).bind fun f=>.pure (.done f)) (ofL 12 (L_4 w.params g)) 96 2309=some (.ok .next,ofL 12 (L_6 w.params g),110,2325):=by
 rw[PySem.W.Fast.te11892475500146522536,PySem.W.Fast.te14364793385576792824,PySem.W.Fast.te12563942051412417395]
 kernel_rfl
theorem run_7(w:World):∀(g:Nat→Obj) (p q:Pos),ev (denote treeTable) pw w.params 100000 (ctx0 q) p ((execs (stmts 7 7) env0).bind fun f=>.pure (.done f)) (ofL 12 (L_6 w.params g)) 110 2325=some (.ok .next,ofL 12 (L_7 w.params g),115,2339):=by
 rw[PySem.W.Fast.te11892475500146522536,PySem.W.Fast.te14364793385576792824,PySem.W.Fast.te12563942051412417395]
 refine byRow2 "special-get-raises" (P:=fun w=>∀(g:Nat→Obj) (p q:Pos),ev (PySem.W.Fast.tw11892475500146522536 PySem.W.Fast.tw14364793385576792824) pw w.params 100000 (ctx0 q) p ((PySem.W.Fast.tw12563942051412417395 (stmts 7 7) env0).bind fun f=>.pure (.done f)) (ofL 12 (L_6 w.params g)) 110 2325=some (.ok .next,ofL 12 (L_7 w.params g),115,2339)) ?_ ?_ w<;>(intro w g p q;kernel_rfl)
theorem run_8(w:World)(g:Nat→Obj)(p q:Pos):ev (denote treeTable) pw w.params 100000 (ctx0 q) p ((execs (stmts 8 8) env0).bind fun f=>.pure (.done f)) (ofL 12 (L_7 w.params g)) 115 2339=some (.ok .next,ofL 12 (L_8 w.params g),122,2346):=by
 rw[PySem.W.Fast.te11892475500146522536,PySem.W.Fast.te14364793385576792824,PySem.W.Fast.te12563942051412417395]
 kernel_rfl
theorem run_9(w:World):∀(g:Nat→Obj) (p q:Pos),ev (denote treeTable) pw w.params 100000 (ctx0 q) p ((execs (stmts 9 9) env0).bind fun f=>.pure (.done f)) (ofL 12 (L_8 w.params g)) 122 2346=some (.ok .next,ofL 12 (L_9 w.params g),127,2374):=by
 rw[PySem.W.Fast.te11892475500146522536,PySem.W.Fast.te14364793385576792824,PySem.W.Fast.te12563942051412417395]
 refine byRow2 "special-get-raises" (P:=fun w=>∀(g:Nat→Obj) (p q:Pos),ev (PySem.W.Fast.tw11892475500146522536 PySem.W.Fast.tw14364793385576792824) pw w.params 100000 (ctx0 q) p ((PySem.W.Fast.tw12563942051412417395 (stmts 9 9) env0).bind fun f=>.pure (.done f)) (ofL 12 (L_8 w.params g)) 122 2346=some (.ok .next,ofL 12 (L_9 w.params g),127,2374)) ?_ ?_ w<;>(intro w g p q;kernel_rfl)
theorem run_10(w:World)(g:Nat→Obj)(p q:Pos):ev (denote treeTable) pw w.params 100000 (ctx0 q) p ((execs (stmts 10 10) env0).bind fun f=>.pure (.done f)) (ofL 12 (L_9 w.params g)) 127 2374=some (.ok .next,ofL 12 (L_10 w.params g),134,2381):=by
 rw[PySem.W.Fast.te11892475500146522536,PySem.W.Fast.te14364793385576792824,PySem.W.Fast.te12563942051412417395]
 kernel_rfl
theorem run_11(w:World):∀(g:Nat→Obj) (p q:Pos),ev (denote treeTable) pw w.params 100000 (ctx0 q) p ((execs (stmts 11 11) env0).bind fun f=>.pure (.done f)) (ofL 12 (L_10 w.params g)) 134 2381=some (.ok .next,ofL 12 (L_11 w.params g),151,2422):=by
 rw[PySem.W.Fast.te11892475500146522536,PySem.W.Fast.te14364793385576792824,PySem.W.Fast.te12563942051412417395]
 refine byRow2 "special-get-raises" (P:=fun w=>∀(g:Nat→Obj) (p q:Pos),ev (PySem.W.Fast.tw11892475500146522536 PySem.W.Fast.tw14364793385576792824) pw w.params 100000 (ctx0 q) p ((PySem.W.Fast.tw12563942051412417395 (stmts 11 11) env0).bind fun f=>.pure (.done f)) (ofL 12 (L_10 w.params g)) 134 2381=some (.ok .next,ofL 12 (L_11 w.params g),151,2422)) ?_ ?_ w<;>(intro w g p q;kernel_rfl)
theorem run_12(w:World)(g:Nat→Obj)(p q:Pos):ev (denote treeTable) pw w.params 100000 (ctx0 q) p ((execs (stmts 12 12) env0).bind fun f=>.pure (.done f)) (ofL 12 (L_11 w.params g)) 151 2422=some (.ok .next,ofL 12 (L_12 w.params g),158,2429):=by
 rw[PySem.W.Fast.te11892475500146522536,PySem.W.Fast.te14364793385576792824,PySem.W.Fast.te12563942051412417395]
 kernel_rfl
def asgV:Stmt→Expr
 | .Assign _ v _=>v
 |_=>.Constant .none 0 default
def callA:Expr→Expr
 | .Call _ (a::_) _ _=>a
 |_=>.Constant .none 0 default
def VL:Expr:=callA (asgV (stN 14))
def Kb(P:Params)(g:Nat→Obj):List Obj:=L_12 P g++[o158 P,o159 P,o160 P,o161 P,o162 P,o163 P,o164 P]
theorem run_13a(w:World):∀(g:Nat→Obj) (p q:Pos),ev (denote treeTable) pw w.params 100000 (ctx0 q) p ((eval VL env0).bind fun v=>.pure (.done (.ret v))) (ofL 12 (L_12 w.params g)) 158 2429=some (.ok (.ret (.ref 164)),ofL 12 (Kb w.params g),165,2531):=by
 rw[PySem.W.Fast.te11892475500146522536,PySem.W.Fast.te14364793385576792824,PySem.W.Fast.te14044960220447912780]
 refine byRow2 "special-get-raises" (P:=fun w=>∀(g:Nat→Obj) (p q:Pos),ev (PySem.W.Fast.tw11892475500146522536 PySem.W.Fast.tw14364793385576792824) pw w.params 100000 (ctx0 q) p ((PySem.W.Fast.tw14044960220447912780 VL env0).bind fun v=>.pure (.done (.ret v))) (ofL 12 (L_12 w.params g)) 158 2429=some (.ok (.ret (.ref 164)),ofL 12 (Kb w.params g),165,2531)) ?_ ?_ w<;>(intro w g p q;kernel_rfl)
def L_4a(P:Params)(g:Nat→Obj):List Obj:=L_3 P g++[g 57,g 58,g 59,g 60,g 61,g 62,g 63,g 64,g 65,g 66,g 67,g 68,g 69,g 70,g 71,g 72,g 73,g 74,g 75,g 76,g 77,g 78,g 79,g 80,g 81,g 82,g 83,g 84,g 85,g 86,g 87,g 88,g 89,g 90,g 91,g 92,g 93,g 94,g 95]
def VN(P:Params)(g:Nat→Obj):List Obj:=Kb P g++[g 165,g 166,g 167,g 168]
theorem run_4b(P:Params)(g:Nat→Obj)(p q:Pos):ev (denote treeTable) pw P 1000 (ctx0 q) p (((do standAt ⟨9,0,9,13⟩;bindName env0 (S "b3_exceptions") (.ref 57);pure Flow.next):Sem Flow).bind fun f=>.pure (.done f)) (ofL 12 (L_4a P g)) 96 2308=some (.ok .next,ofL 12 (L_4 P g),96,2309):=by
 kernel_rfl
theorem run_13c(P:Params)(g:Nat→Obj)(p q:Pos):ev (denote treeTable) pw P 1000 (ctx0 q) p (((do standAt ⟨31,0,31,6⟩;bindName env0 (S "c9_set") (.ref 165);pure Flow.next):Sem Flow).bind fun f=>.pure (.done f)) (ofL 12 (VN P g)) 169 2628=some (.ok .next,ofL 12 (L_13 P g),169,2629):=by
 kernel_rfl
theorem run_name_set(P:Params)(g:Nat→Obj)(p q np:Pos):ev (denote treeTable) pw P 1000 (ctx0 q) p ((eval (.Name (S "set") np) env0).bind fun v=>.pure (.done (.ret v))) (ofL 12 (L_12 P g)) 158 2429=some (.ok (.ret (.type "set")),ofL 12 (L_12 P g),158,2429):=by
 kernel_rfl
theorem run_19(w:World)(g:Nat→Obj)(p q:Pos):ev (denote treeTable) pw w.params 100000 (ctx0 q) p ((execs (stmts 14 19) env0).bind fun f=>.pure (.done f)) (ofL 12 (L_13 w.params g)) 169 2629=some (.ok .next,ofL 12 (L_19 w.params g),203,2681):=by
 rw[PySem.W.Fast.te11892475500146522536,PySem.W.Fast.te14364793385576792824,PySem.W.Fast.te12563942051412417395]
 kernel_rfl
theorem run_21(w:World)(g:Nat→Obj)(p q:Pos):ev (denote treeTable) pw w.params 100000 (ctx0 q) p ((execs (stmts 20 21) env0).bind fun f=>.pure (.done f)) (ofL 12 (L_19 w.params g)) 203 2681=some (.ok .next,ofL 12 (L_21 w.params g),245,2741):=by
 rw[PySem.W.Fast.te11892475500146522536,PySem.W.Fast.te14364793385576792824,PySem.W.Fast.te12563942051412417395]
 kernel_rfl
theorem run_25(w:World)(g:Nat→Obj)(p q:Pos):ev (denote treeTable) pw w.params 100000 (ctx0 q) p ((execs (stmts 22 25) env0).bind fun f=>.pure (.done f)) (ofL 12 (L_21 w.params g)) 245 2741=some (.ok .next,ofL 12 (L_25 w.params g),268,2845):=by
 rw[PySem.W.Fast.te11892475500146522536,PySem.W.Fast.te14364793385576792824,PySem.W.Fast.te12563942051412417395]
 kernel_rfl
theorem run_26(w:World)(g:Nat→Obj)(p q:Pos):ev (denote treeTable) pw w.params 100000 (ctx0 q) p ((execs (stmts 26 26) env0).bind fun f=>.pure (.done f)) (ofL 12 (L_25 w.params g)) 268 2845=some (.ok .next,ofL 12 (L_26 w.params g),393,3002):=by
 rw[PySem.W.Fast.te11892475500146522536,PySem.W.Fast.te14364793385576792824,PySem.W.Fast.te12563942051412417395]
 kernel_rfl
theorem run_35(w:World)(g:Nat→Obj)(p q:Pos):ev (denote treeTable) pw w.params 100000 (ctx0 q) p ((execs (stmts 27 35) env0).bind fun f=>.pure (.done f)) (ofL 12 (L_26 w.params g)) 393 3002=some (.ok .next,ofL 12 (L_35 w.params g),439,3065):=by
 rw[PySem.W.Fast.te11892475500146522536,PySem.W.Fast.te14364793385576792824,PySem.W.Fast.te12563942051412417395]
 kernel_rfl
end
section
open PySem PySem.W PyProof.Rows PySem.Spec
theorem half_lt{α:Type}:∀(n:Nat) (l:List α),l.length+1<n+n→(evens l).length<n∧(odds l).length<n
 |0,_,h=>absurd h (Nat.not_lt_zero _)
 |n+1,[],_=>⟨Nat.succ_pos _,Nat.succ_pos _⟩
 |1,[_],h=>absurd h (Nat.lt_irrefl 2)
 |n+2,[_],_=>⟨Nat.succ_lt_succ (Nat.succ_pos _),Nat.succ_pos _⟩
 |n+1,_::_::r,h=>(half_lt n r (Nat.lt_of_add_lt_add_right (n:=2) (Nat.add_add_add_comm n 1 n 1▸(h:r.length+1+2<n+1+(n+1))))).imp Nat.succ_lt_succ Nat.succ_lt_succ
theorem evens_get{α:Type}:∀(l:List α) (j:Nat),(evens l)[j]? =l[2*j]?
 | [],_=>rfl
 | [_],0=>rfl
 | [_],_+1=>rfl
 |_::_::_,0=>rfl
 |_::_::r,j+1=>evens_get r j
theorem odds_get{α:Type}:∀(l:List α) (j:Nat),(odds l)[j]? =l[2*j+1]?
 | [],_=>rfl
 | [_],_=>rfl
 |_::_::_,0=>rfl
 |_::_::r,j+1=>odds_get r j
theorem cons_get{α:Type}{o:α}{r:List α}{i j:Nat}(h:j+1=i):r[j]? =(o::r)[i]? :=by subst h;rfl
theorem Vp:∀(n:Nat) (l:List Obj) (i:Nat),l.length<2 ^ n→(ofL n l).get i=l[i]?
 |0,[],_,_=>rfl
 |0,_::_,_,h=>absurd (Nat.lt_of_succ_lt_succ h) (Nat.not_lt_zero _)
 |n+1,[],i,h=>rfl
 |n+1,o::r,i,h=>by
  rw[Nat.pow_succ,Nat.mul_two]at h
  have hr:=half_lt _ _ h
  show(BT.node o (ofL n (evens r)) (ofL n (odds r))).get i=_
  rw[BT.get_node]
  have d:=Nat.div_add_mod i 2
  by_cases h0:i=0
  ·rw[if_pos h0,h0];rfl
  ·rw[if_neg h0]
   rcases Nat.mod_two_eq_zero_or_one i with h1 |h1
   ·rw[if_neg (by rw[h1];decide),Vp n _ _ hr.2,odds_get]
    rw[h1]at d
    refine cons_get ?_
    revert d
    cases i/2 with
    |zero=>exact fun d=>absurd d.symm h0
    |succ k=>exact fun d=>d
   ·rw[if_pos h1,Vp n _ _ hr.1,evens_get]
    rw[h1]at d
    exact cons_get d
theorem absHeap_ofL{L:List Obj}{n:Nat}{life:Life}(hn:L.length=n)(hlt:n<4096):absHeap (ofL 12 L) n life=⟨L.toArray,life⟩:=by
 subst hn
 unfold absHeap BT.list
 congr 2
 apply List.ext_getElem?
 intro i
 rw[List.getElem?_map]
 rcases Nat.lt_or_ge i L.length with h |h
 ·rw[List.getElem?_range h,Option.map_some,Vp 12 L i hlt,List.getElem?_eq_getElem h];rfl
 ·rw[List.getElem?_eq_none (by rw[List.length_range];exact h),List.getElem?_eq_none h];rfl
noncomputable def stL(L:List Obj)(k:Nat)(os:OsState):Shared:=⟨⟨L.toArray,{}⟩,#[],{},k,os⟩
theorem atE_ofL{L:List Obj}{n k:Nat}{os:OsState}(hn:L.length=n)(hlt:n<4096):atE {} #[] {} os (ofL 12 L) n k=stL L k os:=by
 unfold atE stL
 rw[absHeap_ofL hn hlt]
noncomputable abbrev MM(w:World):Model:=model pw w
theorem mm_tree(w:World):(⟨denote treeTable,pw,w⟩:Model)=MM w:=by rw[←table_eq_tree];rfl
theorem Uw{α:Type}{w:World}{n:Nat}{Γ:PySem.Ctx}{x:Sem α}{enc:α→Flow}{L:List Obj}{m k:Nat}{f:Flow}{L':List Obj}{m' k':Nat}{os:OsState}
(h:∀p,ev (denote treeTable) pw w.params n Γ p (x.bind fun a=>.pure (.done (enc a))) (ofL 12 L) m k=some (.ok f,ofL 12 L',m',k'))(hn:L.length=m)(hlt:m<4096)(hn':L'.length=m')(hlt':m'<4096):
 wpG (MM w) Γ x (fun a s'=>enc a=f∧s'=stL L' k' os) (fun _ _=>False) (stL L k os):=fun p=>by
 have:=ev_wp (denote treeTable) pw w {} #[] {} os (h p)
 rw[atE_ofL hn hlt,atE_ofL hn' hlt',mm_tree]at this
 exact this
theorem execs_at{w:World}{Γ:PySem.Ctx}{env:Env}{r:List Stmt}{Q:Flow→Shared→Prop}{E:Value→Shared→Prop}:∀(l:List Stmt) (p:Pos) (s:Shared),
 Sem.wp (MM w) Γ (execs l env) (fun f _ s'=>f= .next∧wpG (MM w) Γ (execs r env) Q E s') (fun e _ s'=>E e s') p s→Sem.wp (MM w) Γ (execs (l++r) env) (fun f _ s'=>Q f s') (fun e _ s'=>E e s') p s
 | [],p,s,h=>h.2 p
 |st::l,p,s,h=>by
  have e:∀l:List Stmt,execs (st::l) env=(exec st env >>= fun f=>match f with | .next=>execs l env |f=>pure f):=fun l=>rfl
  rw[List.cons_append,e]
  rw[e]at h
  rw[Sem.wp_bind']at h ⊢
  refine Sem.wp_mono _ _ _ (fun f p' s' h'=> ?_) (fun _ _ _ x=>x) _ _ h
  cases f with
  |next=>exact execs_at l p' s' h'
  |_=>exact absurd h'.1 (by intro e;cases e)
theorem execsG{w:World}{Γ:PySem.Ctx}{env:Env}{l r:List Stmt}{Q:Flow→Shared→Prop}{E:Value→Shared→Prop}{s:Shared}
(h:wpG (MM w) Γ (execs l env) (fun f s'=>f= .next∧wpG (MM w) Γ (execs r env) Q E s') E s):wpG (MM w) Γ (execs (l++r) env) Q E s:=fun p=>execs_at l p s (h p)
theorem exec1G{w:World}{Γ:PySem.Ctx}{env:Env}{st:Stmt}{Q:Flow→Shared→Prop}{E:Value→Shared→Prop}{s:Shared}
(h:wpG (MM w) Γ (exec st env) (fun f s'=>f= .next∧Q .next s') E s):wpG (MM w) Γ (execs [st] env) Q E s:=by
 have e:execs [st] env=(exec st env >>= fun f=>match f with | .next=>execs [] env |f=>pure f):=rfl
 rw[e]
 refine XG (Yw h ?_ fun _ _ x=>x)
 rintro f s' ⟨rfl,hq⟩
 exact fun p=>hq
theorem rebuild{L:List Obj}{n m:Nat}{U:Nat→Bool}{F:Nat→Obj}{L':(Nat→Obj)→List Obj}{h':Heap}(hL:L.length=n)(hk:∀b o,b<n→(⟨L.toArray,{}⟩:Heap).get? b=some o→h'.get? b=some o)(hz:h'.objs.size=m)(hl:h'.life={})
(hL':∀g,L' g=(List.range m).map fun i=>bif U i then g i else F i)(hF:((List.range m).all fun i=>U i||(decide (i<n)&& !(F i).isFreed))=true)(hOld:∀i,i<n→U i=false→L[i]? =some (F i)):
 h'=⟨(L' fun i=>(h'.objs[i]?).getD default).toArray,{}⟩:=by
 obtain⟨objs,life⟩:=h'
 dsimp only at hz hl ⊢
 subst hl
 congr 1
 apply Array.ext_getElem?
 intro i
 rw[hL']
 conv=>rhs;rw[List.getElem?_toArray,List.getElem?_map]
 rcases Nat.lt_or_ge i m with hi |hi
 ·rw[List.getElem?_range hi]
  have hx:objs[i]? =some objs[i]:=Array.getElem?_eq_getElem (hz▸hi)
  rw[hx]
  show some objs[i]=some (bif U i then(objs[i]?).getD default else F i)
  cases hU:U i with
  |true=>rw[hx];rfl
  |false=>
   have:=List.all_eq_true.mp hF i (List.mem_range.mpr hi)
   rw[hU,Bool.false_or,Bool.and_eq_true]at this
   obtain⟨h1,h2⟩:=this
   have h1:i<n:=of_decide_eq_true h1
   have hfi:(F i).isFreed=false:=by simpa using h2
   have h3:(⟨L.toArray,{}⟩:Heap).get? i=some (F i):=by
    unfold Heap.get?
    rw[List.getElem?_toArray,hOld i h1 hU]
    generalize F i=o at hfi
    obtain⟨c,d,dt,sl⟩:=o
    cases dt<;>first |rfl |cases hfi
   have h4:=hk i _ h1 h3
   have h5:objs[i]? =some (F i):=by
    unfold Heap.get? at h4
    dsimp only at h4
    rw[hx]at h4 ⊢
    generalize objs[i]=o at h4
    obtain⟨c,d,dt,sl⟩:=o
    cases dt<;>first |exact h4 |cases h4
   rw[hx]at h5
   exact h5
 ·rw[List.getElem?_eq_none (by rw[List.length_range];exact hi),Array.getElem?_eq_none (hz▸hi)]
  rfl
noncomputable def unk(i:Nat):Bool:=(Nat.ble 57 i&&Nat.blt i 96)||(Nat.ble 165 i&&Nat.blt i 169)
noncomputable def F4(P:Params)(i:Nat):Obj:=((L_4a P fun _=>default)[i]?).getD default
noncomputable def F13(P:Params)(i:Nat):Obj:=((VN P fun _=>default)[i]?).getD default
theorem shape_get{L:List Obj}{n:Nat}{F g:Nat→Obj}(h:L=(List.range n).map fun i=>bif unk i then g i else F i):∀i,i<n→unk i=false→L[i]? =some (F i):=by
 intro i hi hu
 rw[h,List.getElem?_map,List.getElem?_range hi]
 show some (bif unk i then g i else F i)=_
 rw[hu];rfl
theorem shape_unk{L:List Obj}{n:Nat}{F g:Nat→Obj}(h:L=(List.range n).map fun i=>bif unk i then g i else F i):∀i,i<n→unk i=true→L[i]? =some (g i):=by
 intro i hi hu
 rw[h,List.getElem?_map,List.getElem?_range hi]
 show some (bif unk i then g i else F i)=_
 rw[hu];rfl
theorem Kk{L:List Obj}{n:Nat}{f:Nat→Obj}(h:L=(List.range n).map f):L.length=n:=by rw[h];simp
theorem sh_3(P:Params)(g:Nat→Obj):L_3 P g=(List.range 57).map fun i=>bif unk i then g i else F4 P i:=by kernel_rfl
theorem sh_4a(P:Params)(g:Nat→Obj):L_4a P g=(List.range 96).map fun i=>bif unk i then g i else F4 P i:=by kernel_rfl
theorem ok_4(P:Params):((List.range 96).all fun i=>unk i||(decide (i<57)&& !(F4 P i).isFreed))=true:=by kernel_rfl
theorem VR(P:Params)(g:Nat→Obj):Kb P g=(List.range 165).map fun i=>bif unk i then g i else F13 P i:=by kernel_rfl
theorem sh_13b(P:Params)(g:Nat→Obj):VN P g=(List.range 169).map fun i=>bif unk i then g i else F13 P i:=by kernel_rfl
theorem ok_13(P:Params):((List.range 169).all fun i=>unk i||(decide (i<165)&& !(F13 P i).isFreed))=true:=by kernel_rfl
noncomputable def dvw:PySem.Expr→(List (Option PySem.Expr)×List PySem.Expr) ⊕ Const
 | .Dict ks vs _=>.inl (ks,vs)
 | .Constant k _ _=>.inr k
 |_=>.inl ([],[])
noncomputable def dictP(e:PySem.Expr):List (Option PySem.Expr)×List PySem.Expr:=Sum.casesOn (dvw e) id fun _=>([],[])
noncomputable def conV:Const→Int×PySem.Str
 | .int i=>(i,S "")
 | .str x=>(0,x)
 |_=>(0,S "")
noncomputable def csG(k v:PySem.Expr):(Int×PySem.Str)×Pos×Pos:=(((Sum.casesOn (dvw k) (fun _=>(0,S "")) conV:Int×PySem.Str).1,(Sum.casesOn (dvw v) (fun _=>(0,S "")) conV:Int×PySem.Str).2),k.pos,v.pos)
noncomputable abbrev keyQ(q:(Int×PySem.Str)×Pos×Pos):Option PySem.Expr:=some (.Constant (.int q.1.1) 0 q.2.1)
noncomputable abbrev valQ(q:(Int×PySem.Str)×Pos×Pos):PySem.Expr:=.Constant (.str q.1.2) 0 q.2.2
theorem disp_trees{prog:Program}{w:World}(env:Env)(p:Pos):∀qs:List ((Int×PySem.Str)×Pos×Pos),
 ∃ps,(evalEachOpt (qs.map keyQ) env).zip ((evalEach (qs.map valQ) env).map fun v=>do let x ←v;standAt p;pure x)=ps.map (fun q=>(some q.1,q.2))∧Trees prog w ps (qs.map (·.1))
 | []=>⟨[],rfl,.nil⟩
 |q::qs=>by
  obtain⟨ps,e,t⟩:=disp_trees env p qs
  refine⟨(eval (.Constant (.int q.1.1) 0 q.2.1) env,do let x ←eval (valQ q) env;standAt p;pure x)::ps,congrArg (List.cons _) e,.cons ?_ ?_ t⟩
  ·intro A E s Q hQ;exact wpAny_Constant_int hQ
  ·intro A E s Q hQ;exact wpAny_bind (wpAny_Constant_str (wpAny_bind (wpAny_standAt (wpAny_pure hQ))))
noncomputable def b3E:PySem.Expr:=asgV (stN 5)
noncomputable def qsB3:List ((Int×PySem.Str)×Pos×Pos):=List.zipWith (fun k v=>csG (k.getD v) v) (dictP b3E).1 (dictP b3E).2
noncomputable def csB3:List (Int×PySem.Str):=qsB3.map (·.1)
theorem Wl:csB3.length=650:=by kernel_rfl
noncomputable def ascB:List Int→Bool
 |a::b::r=>decide (a<b)&&ascB (b::r)
 |_=>true
theorem ascB3:ascB (csB3.map (·.1))=true:=by kernel_rfl
theorem asc_lt:∀{a:Int} {l:List Int},ascB (a::l)=true→∀b∈l,a<b
 |a,[],_,b,hb=>nomatch hb
 |a,c::r,h,b,hb=>by
  have h:=(Bool.and_eq_true_iff).mp h
  rcases List.mem_cons.mp hb with e |hb
  ·exact e▸of_decide_eq_true h.1
  ·exact Int.lt_trans (of_decide_eq_true h.1) (asc_lt h.2 b hb)
theorem asc_tail{a:Int}{l:List Int}(h:ascB (a::l)=true):ascB l=true:=by
 cases l with
 |nil=>rfl
 |cons b r=>exact((Bool.and_eq_true_iff).mp h).2
theorem asc_nodup:∀{l:List Int},ascB l=true→l.Nodup
 | [],_=>List.nodup_nil
 |a::l,h=>List.nodup_cons.mpr ⟨fun hm=>absurd (asc_lt h a hm) (Int.lt_irrefl _),asc_nodup (asc_tail h)⟩
noncomputable def Vb(w:World)(o:Obj):Prop:=o.isFreed=false∧∃kvs,Mat kvs csB3∧∀h:Heap,h.get? 57=some o→h.DictOf (intKind pw w) 57 kvs
theorem st5:stN 5= .Assign [.Name (S "b3_exceptions") ⟨9,0,9,13⟩] (.Dict (qsB3.map keyQ) (qsB3.map valQ) b3E.pos) (stN 5).pos:=by kernel_rfl
noncomputable def A1(q:Pos):Around:=⟨none,frameCount (ctx0 q).below+(ctx0 q).code.weight,none,none,(ctx0 q).units⟩
theorem in_A1(q:Pos):(ctx0 q).In (A1 q):=⟨rfl,Nat.le_refl _,fun l (h:none=some l)=>(nomatch h),fun g (h:none=some g)=>(nomatch h),Nat.le_refl _⟩
theorem Vy{L:List Obj}{i:Nat}{o:Obj}(h:L[i]? =some o)(hf:o.isFreed=false):(⟨L.toArray,{}⟩:Heap).get? i=some o:=by
 unfold Heap.get?
 rw[List.getElem?_toArray,h]
 obtain⟨c,d,dt,sl⟩:=o
 cases dt<;>first |rfl |cases hf
theorem Vo{h:Heap}{i:Nat}{o:Obj}(e:h.get? i=some o):h.objs[i]? =some o∧o.isFreed=false:=by
 unfold Heap.get? at e
 split at e
 ·cases e
 ·rename_i hx
  refine⟨e,?_⟩
  obtain⟨c,d,dt,sl⟩:=o
  cases dt<;>first |rfl |exact absurd e (hx _ _ _)
theorem swaps_dict(ks vs p t l)(env:Env):swapsWith (.Dict ks vs p) (some t) l env=pure false:=rfl
theorem swaps_call(f as ks p t l)(env:Env):swapsWith (.Call f as ks p) (some t) l env=pure false:=rfl
theorem asgG_dict{M:Model}{Γ:PySem.Ctx}{E:Value→Shared→Prop}{s:Shared}{env:Env}{x:PySem.Str}{pos' pos p:Pos}{ks:List (Option PySem.Expr)}{vs:List PySem.Expr}{Q:Flow→Shared→Prop}
(h:wpG M Γ (dictDisplay ((evalEachOpt ks env).zip ((evalEach vs env).map fun v=>do let x ←v;standAt p;pure x))) (fun v s₁=>wpG M Γ ((do standAt pos';bindName env x v;pure Flow.next):Sem Flow) Q E s₁) E s):
 wpG M Γ (exec (.Assign [.Name x pos'] (.Dict ks vs p) pos) env) Q E s:=by
 refine asgG (swaps_dict ..) ?_
 rw[arm_eval_Dict]
 exact XG (VP h)
theorem dict_step(w:World)(g:Nat→Obj)(os:OsState)(q:Pos):wpG (MM w) (ctx0 q) (exec (stN 5) env0)
 (fun f s'=>f= .next∧∃g',Vb w (g' 57)∧s'=stL (L_4 w.params g') 2309 os) (fun _ _=>False) (stL (L_3 w.params g) 358 os):=by
 rw[st5]
 refine asgG_dict ?_
 obtain⟨ps,e,t⟩:=disp_trees (prog:=pw) (w:=w) env0 b3E.pos qsB3
 rw[e]
 have len3:(L_3 w.params g).length=57:=Kk (sh_3 w.params g)
 have hsz:(stL (L_3 w.params g) 358 os).heap.objs.size=57:=by show(L_3 w.params g).toArray.size=57;rw[List.size_toArray,len3]
 refine wpG_life (wpG_of_any (display (prog:=pw) (w:=w) (cs:=csB3) (by rw[hsz];decide) t (by intro h;have:=Wl;rw[h]at this;cases this) (asc_nodup ascB3) (by rw[Wl];decide) fun h' kvs hM hd hk hz hl=> ?_) (in_A1 q))
 rw[hsz,Wl]at hz
 rw[hsz]at hd hk ⊢
 rw[Wl]
 have hr:=rebuild (U:=unk) (F:=F4 w.params) (L':=L_4a w.params) len3 hk hz hl (sh_4a w.params) (ok_4 w.params) (shape_get (sh_3 w.params g))
 have h57:∃o,h'.get? 57=some o:=by obtain⟨o,_,_,ho,_⟩:=hd;exact⟨o,ho⟩
 obtain⟨o,ho⟩:=h57
 obtain⟨ho1,ho2⟩:=Vo ho
 have hg:(h'.objs[57]?).getD default=o:=by rw[ho1];rfl
 have hs:({(stL (L_3 w.params g) 358 os)with heap:=h',toks:=(stL (L_3 w.params g) 358 os).toks+3*650}:Shared)=stL (L_4a w.params fun i=>(h'.objs[i]?).getD default) 2308 os:=by
  unfold stL
  rw[←hr]
 rw[hs]
 refine Yw (Uw (enc:=id) (L':=L_4 w.params fun i=>(h'.objs[i]?).getD default) (fun p=>run_4b w.params _ p q) (Kk (sh_4a w.params _)) (by decide) (by kernel_rfl) (by decide)) ?_ fun _ _ x=>x
 rintro f s' ⟨rfl,rfl⟩
 refine⟨rfl,_,?_,rfl⟩
 rw[hg]
 refine⟨ho2,kvs,hM,fun h hh=> ?_⟩
 obtain⟨o',es,ep,ho',rest⟩:=hd
 rw[ho]at ho'
 obtain rfl:=Option.some.inj ho'
 exact⟨o,es,ep,hh,rest⟩
noncomputable def ns9:List Int:=917505::(List.range 96).map fun i=>((917536+i:Nat):Int)
noncomputable def VH(w:World)(a:Addr)(ns:List Int)(o:Obj):Prop:=o.isFreed=false∧∀h:Heap,h.get? a=some o→∃n,h.SetOf (intKind pw w) a (fun k=>ns.any (· ==k)) n
theorem st14:stN 14= .Assign [.Name (S "c9_set") ⟨31,0,31,6⟩] (.Call (.Name (S "set") ⟨31,9,31,12⟩) [VL] [] (asgV (stN 14)).pos) (stN 14).pos:=by kernel_rfl
theorem asgG_call{M:Model}{Γ:PySem.Ctx}{E:Value→Shared→Prop}{s:Shared}{env:Env}{x f:PySem.Str}{pos' pos p np:Pos}{arg:PySem.Expr}{T:String}{Q:Flow→Shared→Prop}(he:starEach [arg] env=[(false,eval arg env)])
(hf:wpG M Γ (eval (.Name f np) env) (fun v s₁=>v= .type T∧s₁=s) E s)
(h:wpG M Γ (eval arg env) (fun a s₁=>wpG M Γ (PySem.call (.type T) [a]) (fun v s₁=>wpG M Γ ((do standAt pos';bindName env x v;pure Flow.next):Sem Flow) Q E s₁) E s₁) E s):
 wpG M Γ (exec (.Assign [.Name x pos'] (.Call (.Name f np) [arg] [] p) pos) env) Q E s:=
 asgG (swaps_call ..) (callG he hf h)
noncomputable def XV(e:PySem.Expr):Bool:=e.ctorIdx==22
theorem Xt{e:PySem.Expr}{es:List PySem.Expr}{env:Env}(h:XV e=false):starEach (e::es) env=(false,eval e env)::starEach es env:=by
 cases e<;>first |rfl |cases h
theorem Zs{e:PySem.Expr}{env:Env}(h:XV e=false):starEach [e] env=[(false,eval e env)]:=Xt h
theorem star9:starEach [VL] env0=[(false,eval VL env0)]:=Zs (by kernel_rfl)
noncomputable def Vc:Obj→Array Value
 | ⟨_,_,.seq xs _,_⟩=>xs
 |_=>#[]
noncomputable def tokV:Value→Tok
 | .int _ t=>t
 |_=>default
theorem ints_of:∀{vs:List Value} {ns:List Int},vs.length=ns.length→IntsAre (List.zipWith (fun n v=>.int n (tokV v)) ns vs) ns
 | [],[],_=>.nil
 |_::_,_::_,h=>.cons _ _ (ints_of (Nat.succ.inj h))
 | [],_::_,h=>nomatch h
 |_::_,[],h=>nomatch h
theorem c9_step(w:World)(g:Nat→Obj)(os:OsState)(q:Pos)(hg:(g 57).isFreed=false):wpG (MM w) (ctx0 q) (exec (stN 14) env0)
 (fun f s'=>f= .next∧∃g',g' 57=g 57∧VH w 165 ns9 (g' 165)∧s'=stL (L_13 w.params g') 2629 os) (fun _ _=>False) (stL (L_12 w.params g) 2429 os):=by
 have len12:(L_12 w.params g).length=158:=by kernel_rfl
 have len13a:(Kb w.params g).length=165:=Kk (VR w.params g)
 rw[st14]
 refine asgG_call (T:="set") star9 (Yw (Uw (enc:=.ret) (fun p=>run_name_set w.params g p q _) len12 (by decide) len12 (by decide)) ?_ fun _ _ x=>x)
  (Yw (Uw (enc:=.ret) (fun p=>run_13a w g p q) len12 (by decide) len13a (by decide)) ?_ fun _ _ x=>x)
 ·rintro v s ⟨h,rfl⟩;injection h with h;exact⟨h,rfl⟩
 ·rintro v s ⟨h,rfl⟩
  injection h with h
  subst h
  have hsz:(stL (Kb w.params g) 2531 os).heap.objs.size=165:=by show(Kb w.params g).toArray.size=165;rw[List.size_toArray,len13a]
  have h164:∃items:Array Value,(Kb w.params g)[164]? =some ⟨.type "list",none,.seq items 0,#[]⟩∧items.size=97∧IntsAre items.toList ns9:=
   ⟨Vc (o164 w.params),by kernel_rfl,by kernel_rfl,(show(Vc (o164 w.params)).toList=List.zipWith (fun n v=>.int n (tokV v)) ns9 (Vc (o164 w.params)).toList by kernel_rfl)▸ints_of (by kernel_rfl)⟩
  obtain⟨items,h1,h2,h3⟩:=h164
  have hL:(stL (Kb w.params g) 2531 os).heap.IsList 164 items:=⟨_,Vy h1 rfl,rfl,0,rfl⟩
  refine wpG_life (wpG_of_any (set_list (prog:=pw) (w:=w) rfl hL h3 (by rw[h2];decide) fun h' hS hk hz hl=> ?_) (in_A1 q))
  rw[hsz]at hz hS hk ⊢
  rw[h2]at hS ⊢
  have hr:=rebuild (U:=unk) (F:=F13 w.params) (L':=VN w.params) len13a hk hz hl (sh_13b w.params) (ok_13 w.params) (shape_get (VR w.params g))
  have hs:({(stL (Kb w.params g) 2531 os)with heap:=h',toks:=(stL (Kb w.params g) 2531 os).toks+97}:Shared)=stL (VN w.params fun i=>(h'.objs[i]?).getD default) 2628 os:=by
   unfold stL
   rw[←hr]
  rw[hs]
  have h57:(h'.objs[57]?).getD default=g 57:=by
   have:=hk 57 (g 57) (by decide) (Vy (shape_unk (VR w.params g) 57 (by decide) rfl) hg)
   rw[(Vo this).1];rfl
  have h165:∃o,h'.get? 165=some o:=by obtain⟨o,_,_,_,ho,_⟩:=hS;exact⟨o,ho⟩
  obtain⟨o,ho⟩:=h165
  have hg':(h'.objs[165]?).getD default=o:=by rw[(Vo ho).1];rfl
  refine Yw (Uw (enc:=id) (L':=L_13 w.params fun i=>(h'.objs[i]?).getD default) (fun p=>run_13c w.params _ p q) (Kk (sh_13b w.params _)) (by decide) (by kernel_rfl) (by decide)) ?_ fun _ _ x=>x
  rintro f s' ⟨rfl,rfl⟩
  refine⟨rfl,_,h57,?_,rfl⟩
  rw[hg']
  refine⟨(Vo ho).2,fun h hh=>⟨(firstMet (fun i=>ns9.getD i 0) 97).length,?_⟩⟩
  obtain⟨o',es,ep,t,ho',rest⟩:=hS
  rw[ho]at ho'
  obtain rfl:=Option.some.inj ho'
  refine SetOf_congr (S:=fun k'=>(firstMet (fun i=>ns9.getD i 0) 97).any (· ==k')) ⟨o,es,ep,t,hh,rest⟩ (fun k=> ?_) rfl
  rw[firstMet_any,show(List.range 97).map (fun i=>ns9.getD i 0)=ns9 from by kernel_rfl]
noncomputable def Facts(w:World)(g:Nat→Obj):Prop:=Vb w (g 57)∧VH w 165 ns9 (g 165)
theorem Zd{w:World}{q:Pos}{l r:List Stmt}{L L':List Obj}{m k m' k':Nat}{os:OsState}{Q:Flow→Shared→Prop}
(h:∀p,ev (denote treeTable) pw w.params 100000 (ctx0 q) p ((execs l env0).bind fun f=>.pure (.done f)) (ofL 12 L) m k=some (.ok .next,ofL 12 L',m',k'))(hn:L.length=m)(hlt:m<4096)(hn':L'.length=m')(hlt':m'<4096)
(hQ:wpG (MM w) (ctx0 q) (execs r env0) Q (fun _ _=>False) (stL L' k' os)):wpG (MM w) (ctx0 q) (execs (l++r) env0) Q (fun _ _=>False) (stL L k os):=by
 refine execsG (Yw (Uw (enc:=id) h hn hlt hn' hlt') ?_ fun _ _ x=>x)
 rintro f s' ⟨rfl,rfl⟩
 exact⟨rfl,hQ⟩
theorem stepG{w:World}{q:Pos}{st:Stmt}{r:List Stmt}{s:Shared}{P:Shared→Prop}{Q:Flow→Shared→Prop}
(h:wpG (MM w) (ctx0 q) (exec st env0) (fun f s'=>f= .next∧P s') (fun _ _=>False) s)(hk:∀s',P s'→wpG (MM w) (ctx0 q) (execs r env0) Q (fun _ _=>False) s'):wpG (MM w) (ctx0 q) (execs ([st]++r) env0) Q (fun _ _=>False) s:=by
 refine execsG (exec1G (Yw h ?_ fun _ _ x=>x))
 rintro f s' ⟨rfl,hp⟩
 exact⟨rfl,rfl,hk s' hp⟩
theorem body_split:behindTheImports pw=stmts 0 1++(stmts 2 2++(stmts 3 3++([stN 5]++(stmts 5 6++(stmts 7 7++(stmts 8 8++(stmts 9 9++(stmts 10 10++(stmts 11 11++(stmts 12 12++([stN 14]++(stmts 14 19++(stmts 20 21++(stmts 22 25++(stmts 26 26++(stmts 27 35++[])))))))))))))))):=by kernel_rfl
theorem UC(P:Params)(g:Nat→Obj):(Ve P g).length=32:=by kernel_rfl
theorem len_1(P:Params)(g:Nat→Obj):(L_1 P g).length=39:=by kernel_rfl
theorem len_2(P:Params)(g:Nat→Obj):(L_2 P g).length=50:=by kernel_rfl
theorem len_3(P:Params)(g:Nat→Obj):(L_3 P g).length=57:=by kernel_rfl
theorem len_4(P:Params)(g:Nat→Obj):(L_4 P g).length=96:=by kernel_rfl
theorem len_6(P:Params)(g:Nat→Obj):(L_6 P g).length=110:=by kernel_rfl
theorem len_7(P:Params)(g:Nat→Obj):(L_7 P g).length=115:=by kernel_rfl
theorem len_8(P:Params)(g:Nat→Obj):(L_8 P g).length=122:=by kernel_rfl
theorem len_9(P:Params)(g:Nat→Obj):(L_9 P g).length=127:=by kernel_rfl
theorem len_10(P:Params)(g:Nat→Obj):(L_10 P g).length=134:=by kernel_rfl
theorem len_11(P:Params)(g:Nat→Obj):(L_11 P g).length=151:=by kernel_rfl
theorem len_12(P:Params)(g:Nat→Obj):(L_12 P g).length=158:=by kernel_rfl
theorem len_13(P:Params)(g:Nat→Obj):(L_13 P g).length=169:=by kernel_rfl
theorem len_19(P:Params)(g:Nat→Obj):(L_19 P g).length=203:=by kernel_rfl
theorem len_21(P:Params)(g:Nat→Obj):(L_21 P g).length=245:=by kernel_rfl
theorem len_25(P:Params)(g:Nat→Obj):(L_25 P g).length=268:=by kernel_rfl
theorem len_26(P:Params)(g:Nat→Obj):(L_26 P g).length=393:=by kernel_rfl
theorem Wa(P:Params)(g:Nat→Obj):(L_35 P g).length=439:=by kernel_rfl
theorem top_body(w:World)(g:Nat→Obj)(os:OsState)(q:Pos):wpG (MM w) (ctx0 q) (execs (behindTheImports pw) env0)
 (fun f s'=>f= .next∧∃g,Facts w g∧s'=stL (L_35 w.params g) 3065 os) (fun _ _=>False) (stL (Ve w.params g) 282 os):=by
 rw[body_split]
 refine Zd (fun p=>run_1 w g p q) (UC w.params g) (of_decide_eq_true rfl) (len_1 w.params g) (of_decide_eq_true rfl) ?_
 refine Zd (fun p=>run_2 w g p q) (len_1 w.params g) (of_decide_eq_true rfl) (len_2 w.params g) (of_decide_eq_true rfl) ?_
 refine Zd (fun p=>run_3 w g p q) (len_2 w.params g) (of_decide_eq_true rfl) (len_3 w.params g) (of_decide_eq_true rfl) ?_
 have hd:=@dict_step w g os q
 revert hd
 generalize hst:stN 5=st
 intro hd
 refine stepG (P:=fun s'=>∃g',Vb w (g' 57)∧s'=stL (L_4 w.params g') 2309 os) hd ?_
 rintro s' ⟨g,hD,rfl⟩
 refine Zd (fun p=>run_6 w g p q) (len_4 w.params g) (of_decide_eq_true rfl) (len_6 w.params g) (of_decide_eq_true rfl) ?_
 refine Zd (fun p=>run_7 w g p q) (len_6 w.params g) (of_decide_eq_true rfl) (len_7 w.params g) (of_decide_eq_true rfl) ?_
 refine Zd (fun p=>run_8 w g p q) (len_7 w.params g) (of_decide_eq_true rfl) (len_8 w.params g) (of_decide_eq_true rfl) ?_
 refine Zd (fun p=>run_9 w g p q) (len_8 w.params g) (of_decide_eq_true rfl) (len_9 w.params g) (of_decide_eq_true rfl) ?_
 refine Zd (fun p=>run_10 w g p q) (len_9 w.params g) (of_decide_eq_true rfl) (len_10 w.params g) (of_decide_eq_true rfl) ?_
 refine Zd (fun p=>run_11 w g p q) (len_10 w.params g) (of_decide_eq_true rfl) (len_11 w.params g) (of_decide_eq_true rfl) ?_
 refine Zd (fun p=>run_12 w g p q) (len_11 w.params g) (of_decide_eq_true rfl) (len_12 w.params g) (of_decide_eq_true rfl) ?_
 have hd:=@c9_step w g os q hD.1
 revert hd
 generalize hst:stN 14=st
 intro hd
 refine stepG (P:=fun s'=>∃g',g' 57=g 57∧VH w 165 ns9 (g' 165)∧s'=stL (L_13 w.params g') 2629 os) hd ?_
 rintro s' ⟨g',h57,hS,rfl⟩
 rw[←h57]at hD
 refine Zd (fun p=>run_19 w g' p q) (len_13 w.params g') (of_decide_eq_true rfl) (len_19 w.params g') (of_decide_eq_true rfl) ?_
 refine Zd (fun p=>run_21 w g' p q) (len_19 w.params g') (of_decide_eq_true rfl) (len_21 w.params g') (of_decide_eq_true rfl) ?_
 refine Zd (fun p=>run_25 w g' p q) (len_21 w.params g') (of_decide_eq_true rfl) (len_25 w.params g') (of_decide_eq_true rfl) ?_
 refine Zd (fun p=>run_26 w g' p q) (len_25 w.params g') (of_decide_eq_true rfl) (len_26 w.params g') (of_decide_eq_true rfl) ?_
 refine Zd (fun p=>run_35 w g' p q) (len_26 w.params g') (of_decide_eq_true rfl) (Wa w.params g') (of_decide_eq_true rfl) ?_
 exact fun p=>⟨rfl,g',⟨hD,hS⟩,rfl⟩
theorem run_wp{w:World}{Γ:PySem.Ctx}{c:Code}{p:Pos}{s:Shared}{Q:Flow→Shared→Prop}{E:Value→Shared→Prop}
(h:wpG (MM w) (Γ.enter c none p) (denote table c) (fun fin s'=>∃f,fin= .done f∧Q f s') (fun _ _=>False) s):Sem.wp (MM w) Γ (PySem.run c) (fun f _ s'=>Q f s') (fun e _ s'=>E e s') p s:=by
 show wpCode (MM w) (Γ.enter c none p) (fun r s'=>Sem.wp (MM w) Γ (match r with | .ok f=>(Sem.pure f:Sem Flow) | .error e=>Sem.raise e) (fun f _ s'=>Q f s') (fun e _ s'=>E e s') p s') p s
 have h':=(Sem.wp_iff_runs (MM w) (Γ.enter c none p) (denote table c) (fun r s'=>∃f,r= .ok f∧Q f s') p s).mp (Sem.wp_mono _ _ _ (fun fin p' s' h=> ?_) (fun e p' s' h=>h.elim) p s (h p))
 ·obtain⟨r,s',hr,f,rfl,hq⟩:=h'
  exact⟨.ok f,s',hr,hq⟩
 ·obtain⟨f,rfl,hq⟩:=h
  exact⟨f,rfl,hq⟩
theorem top_tree(w:World)(os:OsState):wpG (MM w) ctxC (topStub pw).cur (fun fin s'=>fin= .done (.ret .none)∧∃g,Facts w g∧s'=stL (L_35 w.params g) 3065 os) (fun _ _=>False) (stL (L_0 w.params) 276 os):=by
 have l0:(L_0 w.params).length=28:=by kernel_rfl
 have l0a:(L_0a w.params).length=31:=by kernel_rfl
 have g:Nat→Obj:=fun _=>default
 show wpG (MM w) ctxC (moduleCode pw.main >>= fun code=>newBodyFrame code mainNs mainNs >>= fun frame=>PySem.run (.body (behindTheImports pw) {scope:=pw.main.scope,locals:=mainNs,globals:=mainNs,cells:=[],code,frame:=some frame}) >>= fun _=>ret .none) _ _ _
 refine XG (Yw (Uw (enc:=.ret) (run_code w.params ·) l0 (by decide) l0a (by decide)) ?_ fun _ _ x=>x)
 rintro code s ⟨hc,rfl⟩
 injection hc with hc
 subst hc
 refine XG (Yw (Uw (enc:=fun a=>.ret (.ref a)) (run_frame w.params g ·) l0a (by decide) (UC _ g) (by decide)) ?_ fun _ _ x=>x)
 rintro frame s ⟨hc,rfl⟩
 injection hc with hc
 injection hc with hc
 subst hc
 refine XG (fun p=>run_wp (Q:=fun _ s'=>wpG (MM w) ctxC (ret Value.none) (fun fin s'=>fin= .done (.ret .none)∧∃g,Facts w g∧s'=stL (L_35 w.params g) 3065 os) (fun _ _=>False) s') ?_)
 show wpG (MM w) (ctx0 p) ((blockStart (behindTheImports pw) env0).bind fun _=>((execs (behindTheImports pw) env0).onRaise (leaving env0)).bind fun f=>(Sem.pure (Fin.done f):Sem Fin)) _ _ _
 refine XG (Yw (Uw (enc:=fun _=>.next) (run_block w.params g · p) (UC _ g) (by decide) (UC _ g) (by decide)) ?_ fun _ _ x=>x)
 rintro _ s ⟨_,rfl⟩
 intro p₁
 show Sem.wp _ _ (((execs (behindTheImports pw) env0).onRaise (leaving env0)) >>= fun f=>(Sem.pure (Fin.done f):Sem Fin)) _ _ _ _
 rw[Sem.wp_bind',Sem.wp_onRaise]
 refine Sem.wp_mono _ _ _ (fun f p₂ s' h=> ?_) (fun e p₂ s' h=>h.elim) _ _ (top_body w g os p p₁)
 obtain⟨rfl,h⟩:=h
 exact⟨_,rfl,fun p=>⟨rfl,h⟩⟩
noncomputable def VK(tb:String→Option Builtin)(p:Program)(w:World):Nat→SharedT→Thread→Option SharedT
 |0,_,_=>none
 |n+1,s,t=>match t.atExitBegin with
  |some l=>match l with
   | []=>some s
   |_::_=>none
  |none=>match stepT (denote tb) p w s t with
   |some r=>VK tb p w n r.1 r.2
   |none=>none
theorem ends_of{tb:String→Option Builtin}{p:Program}{w:World}:∀{n:Nat} {s r:SharedT} {t:Thread},VK tb p w n s t=some r→importEnds tb p w n s.abs t=some r.abs
 |0,_,_,_,h=>by cases h
 |n+1,s,r,t,h=>by
  unfold VK at h
  unfold importEnds
  cases he:t.atExitBegin with
  |some l=>rw[he]at h;cases l with
   |nil=>cases h;rfl
   |cons=>cases h
  |none=>
   rw[he]at h
   cases hs:stepT (denote tb) p w s t with
   |none=>rw[hs]at h;cases h
   |some x=>rw[hs]at h;dsimp only;rw[stepT_spec hs];exact ends_of h
theorem fenced_of{p:Program}{w:World}{n:Nat}{os:OsState}{r:Shared}(hos:(start (opening p)).1=⟨absHeap .nil 0 {},#[],{},1,os⟩)
(h:((VK treeTable (opening p) w n ⟨.nil,0,{},#[],{},1,os⟩ (start (opening p)).2).bind fun s=>fenceModules? p s.abs)=some r):fencedOpening treeTable p w n=some r:=by
 obtain⟨s,h1,h2⟩:=Option.bind_eq_some_iff.mp h
 unfold fencedOpening
 rw[hos]
 have:=ends_of h1
 rw[show SharedT.abs ⟨.nil,0,{},#[],{},1,os⟩=(⟨absHeap .nil 0 {},#[],{},1,os⟩:Shared)from rfl]at this
 rw[this]
 exact h2
noncomputable def os0:OsState:=(start (opening pw)).1.os
theorem start_os:(start (opening pw)).1=⟨absHeap .nil 0 {},#[],{},1,os0⟩:=by kernel_rfl
theorem opened_row(w:World)(os:OsState):((VK treeTable (opening pw) w 2000 ⟨.nil,0,{},#[],{},1,os⟩ (start (opening pw)).2).bind fun s=>fenceModules? pw s.abs)=some (stL (L_0 w.params) 276 os):=by
 rw[PySem.W.Fast.te14364793385576792824]
 kernel_rfl
theorem opened(w:World):fencedOpening treeTable pw w 2000=some (stL (L_0 w.params) 276 os0):=fenced_of start_os (opened_row w os0)
end
section
open PySem PySem.W PyProof.Rows PySem.Spec PySem.Calls
noncomputable def okS(t:Thread)(s:Shared):Step→Prop
 | .halt (.done _) s'=>through t=true∧s'=s
 |_=>True
theorem okO{α:Type}{t:Thread}{s:Shared}{o:Option α}{a:Step}{f:α→Step}(ha:okS t s a)(hf:∀x,okS t s (f x)):okS t s (match o with |none=>a |some x=>f x):=by
 cases o with
 |none=>exact ha
 |some x=>exact hf x
theorem okI{t:Thread}{s:Shared}{p:Prop}[Decidable p]{a b:Step}(ha:okS t s a)(hb:okS t s b):okS t s (if p then a else b):=by
 by_cases h:p
 ·rw[if_pos h];exact ha
 ·rw[if_neg h];exact hb
set_option smartUnfolding false in
theorem step_ok{den:Code→Sem Fin}{p:Program}{w:World}(s:Shared)(t:Thread):okS t s (step den p w s t):=by
 obtain⟨heap,gens,drawn,toks,os⟩:=s
 obtain⟨cur,code,pos,stack⟩:=t
 cases cur with
 |pure fin=>
  cases fin with
  |again c=>exact trivial
  |done f=>
   cases stack with
   |nil=>exact okI trivial ⟨rfl,rfl⟩
   |cons fr r=>cases fr<;>exact trivial
 |raise e=>
  cases stack with
  |nil=>exact okI trivial trivial
  |cons fr r=>cases fr<;>exact trivial
 |finish e=>exact okI trivial trivial
 |load a q k=>exact okO trivial fun _=>trivial
 |update a q f k=>exact okI trivial trivial
 |choose src n k=>exact okI trivial trivial
 |genState g k=>exact okO trivial fun _=>trivial
 |resume g r l k=>
  refine okO trivial fun st=> ?_
  cases st with
  |fresh c=>
   cases r with
   |send v=>cases v<;>exact trivial
   |throw e=>exact trivial
  |_=>exact trivial
 | «yield» v g l k=>
   refine okO trivial fun x=> ?_
   obtain⟨_,⟨_,_,_,_⟩,_⟩:=x
   exact trivial
 |_=>exact trivial
theorem step_done{den:Code→Sem Fin}{p:Program}{w:World}{s s':Shared}{t:Thread}{f:Flow}(h:step den p w s t= .halt (.done f) s'):through t=true∧s'=s:=by
 have k:=step_ok (den:=den) (p:=p) (w:=w) s t
 rw[h]at k
 exact k
theorem halted_running{den:Code→Sem Fin}{p:Program}{w:World}:∀{n:Nat} {s s':Shared} {t:Thread} {f:Flow},runN den p w n s t= .halted (.done f) s'→∃m t',runN den p w m s t= .running s' t'∧through t'=true
 |0,_,_,_,_,h=>by cases h
 |n+1,s,s',t,f,h=>by
  simp only[runN]at h
  cases hs:step den p w s t with
  |go s₂ t₂=>
   rw[hs]at h
   obtain⟨m,t',h1,h2⟩:=halted_running h
   exact⟨m+1,t',by simp only[runN,hs];exact h1,h2⟩
  |halt o s₂=>
   rw[hs]at h
   cases h
   obtain⟨h1,rfl⟩:=step_done hs
   exact⟨0,t,rfl,h1⟩
theorem ran_of_wp{prog:Program}{w:World}{t:Sem Fin}{s:Shared}{P:Shared→Prop}{f:Flow}(hz:s.asleep)(hP:∀s',P s'→s'.gens=#[])
(h:wpG (model prog w) ctxC t (fun fin s'=>fin= .done f∧P s') (fun _ _=>False) s):
 ∃s',P s'∧∃n t',schedN (denote table) prog w n (.single s ⟨t,.builtin "claim.caller" {},default,[]⟩)= .running (.single s' t')∧through t'=true:=by
 have h':=Sem.wp_mono (model prog w) ctxC t (post':=Sem.finPost (model prog w) ctxC fun r s'=>(r= .ok f∧P s')∧leftWithCleanup s'.gens=false) (exc':=fun e _ s'=>((.error e:Result)= .ok f∧P s')∧leftWithCleanup s'.gens=false)
  (fun fin p' s' q=>by
    obtain⟨rfl,q⟩:=q
    exact⟨⟨rfl,q⟩,by rw[hP _ q];simp[leftWithCleanup]⟩) (fun _ _ _ q=>q.elim) default s (h default)
 obtain⟨n,r,s₁,hn,rfl,hp⟩:=(wp_iff_halts (M:=model prog w) (R:=fun r s'=>r= .ok f∧P s') ..).mp h'
 obtain⟨s₂,hr,hf,hc⟩:=runNI_real _ _ _ hn (outcomeOf_ends _)
 obtain rfl:s₂=s₁:=Shared.eq_of_forget_eq hf (hP _ hp)
 have hne:∀k s₃,runN (model prog w).den (model prog w).prog (model prog w).w k s ⟨t,.builtin "claim.caller" {},default,[]⟩≠.halted (.unsupported "lifetime:generator-with-cleanup-left-suspended") s₃:=by
  intro k s₃ hk
  have a:=runN_mono _ _ _ n k s _ _ s₂ hr
  have b:=runN_mono _ _ _ k n s _ _ s₃ hk
  rw[Nat.add_comm,b]at a
  cases a
 obtain⟨m,t',hm,ht⟩:=halted_running hr
 refine⟨s₂,hp,m,t',?_,ht⟩
 have:=schedN_eq_runN (denote table) prog w s _ hz ⟨hc,hne⟩ m
 rw[this]
 show(runN (denote table) prog w m s _).lift=_
 rw[show runN (denote table) prog w m s ⟨t,.builtin "claim.caller" {},default,[]⟩= .running s₂ t' from hm]
 rfl
theorem top_ran(w:World)(os:OsState):∃g,Facts w g∧∃n t,schedN (denote table) pw w n (.single (stL (L_0 w.params) 276 os) (topStub pw))= .running (.single (stL (L_35 w.params g) 3065 os) t)∧through t=true:=by
 obtain⟨s',⟨g,hF,rfl⟩,n,t,h⟩:=ran_of_wp (P:=fun s'=>∃g,Facts w g∧s'=stL (L_35 w.params g) 3065 os) ⟨rfl,rfl⟩ (fun s' h=>by obtain⟨g,_,rfl⟩:=h;rfl) (@top_tree w os)
 exact⟨g,hF,n,t,h⟩
theorem low_35(P:Params)(g:Nat→Obj):(L_35 P g).take 28=(List.range 28).map fun i=>bif i==3 then m3_35 P else((L_0 P)[i]?).getD default:=by kernel_rfl
theorem low_0(P:Params):L_0 P=(List.range 28).map fun i=>bif i==3 then VY P else((L_0 P)[i]?).getD default:=by kernel_rfl
theorem kept_35(P:Params)(g:Nat→Obj)(b:Nat)(hb:b<28)(h3:b≠3):(L_35 P g)[b]? =(L_0 P)[b]? :=by
 have e:=congrArg (fun l=>l[b]?) (low_35 P g)
 rw[List.getElem?_take_of_lt hb]at e
 rw[e,low_0 P,List.getElem?_map,List.getElem?_map,List.getElem?_range hb,←low_0 P]
 have:(b==3)=false:=beq_eq_false_iff_ne.mpr h3
 simp only[Option.map_some,this,cond_false]
noncomputable def Jj:Str:="law"
noncomputable def qv:Program:=view pw [36]
noncomputable def US:List Str:=pw.boundNames.filter fun n=> !(n==Jj)
theorem looks(w:World)(g:Nat→Obj)(os:OsState):openSeen qv US (importedModules pw.main.body) (fun _=>true) true (stL (L_35 w.params g) 3065 os)=openGood qv US:=by
 rw[PySem.W.Fast.te4187177175401517315]
 kernel_rfl
theorem statics_ok(w:World)(g:Nat→Obj)(os:OsState):(staticsOk (importedModules pw.main.body) (stL (L_0 w.params) 276 os).heap (stL (L_35 w.params g) 3065 os).heap&&namesBound pw (stL (L_35 w.params g) 3065 os).heap&&laidKept (stL (L_0 w.params) 276 os).heap (stL (L_35 w.params g) 3065 os).heap)=true:=by kernel_rfl
theorem chains_v:chainsOk qv=true:=by kernel_rfl
theorem size_0(P:Params):(L_0 P).length=28:=by kernel_rfl
noncomputable abbrev S35(w:World)(g:Nat→Obj):Shared:=stL (L_35 w.params g) 3065 os0
theorem behind_pw(w:World):(∃s,AfterRun (opening pw) w s)∧∀s,AfterRun (opening pw) w s→∃s₀,fenceModules? pw s=some s₀∧s₀.gens=#[]∧
 ∃g,Facts w g∧TopRan pw w s₀ (S35 w g)∧(S35 w g).asleep∧(S35 w g).heap.isNs mainGlobals=true∧Ground qv US [] (fun _ _=>True) w (S35 w g) ((S35 w g).heap.nsMap mainGlobals) ((S35 w g).heap.nsMap builtinsNs) (S35 w g).heap:=by
 have h:=opened w
 unfold fencedOpening at h
 rw[←table_eq_tree]at h
 obtain⟨s,h4,h5⟩:=Option.bind_eq_some_iff.mp h
 have A:=AfterImport.of_importEnds h4
 refine⟨⟨s,A⟩,fun s' hs'=> ?_⟩
 obtain rfl:s'=s:=AfterImport.unique hs' A
 obtain⟨g,hF,n,t,hn,ht⟩:=top_ran w os0
 obtain⟨G,_,g1,g2,g3,g4,g5⟩:=ground_of_open (XP:=fun _ _=>True) (w:=w) (fun _ _=>trivial) chains_v (looks w g os0)
 have hs:=statics_ok w g os0
 obtain⟨hs,hlk⟩:=Bool.and_eq_true_iff.mp hs
 obtain⟨hs,hnb⟩:=Bool.and_eq_true_iff.mp hs
 refine⟨_,h5,rfl,g,hF,⟨⟨n,t,hn,ht⟩,rfl,Shared.rest_eq rfl,fun b o hb hn=> ?_,g2,statics_of_ok hs,g3,g4,g5,fun x hx=>(nomatch hx),names_of_bound hnb,laid_of_kept hlk⟩,⟨rfl,rfl⟩,g1,G⟩
 have hlt:b<28:=by
  have:=Heap.lt_size hb
  rw[show(stL (L_0 w.params) 276 os0).heap.objs.size=28 by show(L_0 w.params).toArray.size=28;rw[List.size_toArray,size_0]]at this
  exact this
 have h3:b≠3:=fun e=>hn (.inl e)
 have e:=kept_35 w.params g b hlt h3
 unfold Heap.get? at hb ⊢
 have e':(S35 w g).heap.objs[b]? =(stL (L_0 w.params) 276 os0).heap.objs[b]? :=by
  show(L_35 w.params g).toArray[b]? =(L_0 w.params).toArray[b]?
  rw[List.getElem?_toArray,List.getElem?_toArray,e]
 rw[e']
 exact hb
abbrev RR:OpenRow:=PySem.Challenge.rw_uq0029_01.row
theorem defLaw:(defOf qv Jj).isSome=true:=by kernel_rfl
theorem defLaw_kw:((defOf qv Jj).any fun x=>x.2.isEmpty&&x.1.name==Jj&&x.1.params.kwonlyargs.isEmpty&&x.1.params.kw_defaults.isEmpty&&x.1.params.defaults.isEmpty)=true:=by kernel_rfl
theorem defLaw_p:(defOf qv Jj).bind (fun x=>some (x.1.params,x.1.body,x.1.scope))=pw.theDef Jj:=by kernel_rfl
theorem rowOk:(opensWell pw&&(frees RR.toRowW&&RR.within.isEmpty))=true:=by kernel_rfl
theorem bare_pw:pw.bare:=⟨rfl,rfl,rfl,rfl,rfl,by kernel_rfl⟩
theorem bound_pw:RR.toRowW.promised:=by w_witness2
theorem row_holds(said:RR.wellSaid=true)
(call:∀(w:World) (g:Nat→Obj),Facts w g→∀s₁:Shared,(∀b o,(S35 w g).heap.get? b=some o→s₁.heap.get? b=some o)→Ground qv US [] (fun _ _=>True) w (S35 w g) ((S35 w g).heap.nsMap mainGlobals) ((S35 w g).heap.nsMap builtinsNs) s₁.heap→
   s₁.gens=#[]→∀(args:List WData) (vals:List Value) (as:List Addr),RR.toRowW.claim.pre args=true→WData.layableAll args=true→ReadsAllW [] (classAt (S35 w g).heap) s₁.heap vals args as→(∀a∈as,439≤a)→
   ∃f,(S35 w g).heap.nsMap mainGlobals Jj=some f∧wpAny (model pw w) callerA (PySem.call f vals) (fun v s'=>GoodWG RR.toRowW.claim (classAt (S35 w g).heap) (ExcName.means (S35 w g).heap) args s₁ (.ok (.ret v)) s')
    (fun e s'=>GoodWG RR.toRowW.claim (classAt (S35 w g).heap) (ExcName.means (S35 w g).heap) args s₁ (.error e) s') s₁):RR.Holds:=by
 obtain⟨o1,k⟩:=Bool.and_eq_true_iff.mp rowOk
 obtain⟨k5,k6⟩:=Bool.and_eq_true_iff.mp k
 obtain⟨hsame,hu,ha,hap,hm⟩:=frees_parts k5
 refine⟨said,bound_pw,⟨⟨bare_pw,o1,rfl⟩,bound_pw.witness,fun w=>⟨(behind_pw w).1,fun s' hs'=> ?_⟩⟩⟩
 obtain⟨s₀,hf,hg0,g,hF,hT,hz,hgm,G⟩:=(behind_pw w).2 s' hs'
 refine⟨s₀,hf,hg0,S35 w g,hT,fun n hn=> ?_,fun x hx=>(nomatch hx),fun x hx=>(nomatch hx),?_⟩
 ·obtain⟨x,hx⟩:=Option.isSome_iff_exists.mp defLaw
  obtain⟨d,kwd⟩:=x
  have h2:=defLaw_kw
  have h3:=defLaw_p
  rw[hx]at h2 h3
  simp only[Option.any_some,Bool.and_eq_true,List.isEmpty_iff]at h2
  obtain⟨⟨⟨⟨h4,h5⟩,h6⟩,h7⟩,h8⟩:=h2
  have hn:RR.pinned=true∧n=RR.name:=by simpa using hn
  obtain rfl:n=Jj:=hn.2
  exact pinned_of_view hgm G hx h3.symm (by rw[h6,h7,h4];rfl)
 ·refine ClaimW.callFrom_of_specG (c:=RR.toRowW.claim) hz rfl fun args hpre hlay ord hord=> ?_
  obtain⟨⟨vs,s₁⟩,hlaid⟩:=Option.isSome_iff_exists.mp (layAllW_isSome (P:=w.params) (ord:=ord) G.has args RR.toRowW.args (S35 w g) (pre_splitW hpre).1)
  have keeps:=layAllW_keeps _ _ _ hlaid
  have hal:=layAllW_rest _ _ _ hlaid
  obtain⟨as,hrd,hin,hold⟩:=reads_layAllW hord _ _ _ hlaid hlay s₁.heap (fun _ _ e=>e)
  have L:Laid RR.toRowW.records w (S35 w g) s₁ args vs as:=⟨⟨ord,hord,hlaid⟩,hrd,hin,hold,keeps,hal.1.trans rfl,hal.2.2.1⟩
  have G₁:=G.keeps (fun _ _ _ _ _=>trivial) keeps
  have hsz:(S35 w g).heap.objs.size=439:=by show(L_35 w.params g).toArray.size=439;rw[List.size_toArray,Wa]
  obtain⟨f,hf,h⟩:=call w g hF s₁ keeps G₁ L.gens args vs as hpre hlay L.reads (fun a ha=>by have:=(hin.2.2 a ha).1;rw[hsz]at this;exact this)
  have hi:=ident_freeW hu ha hap
  have hwi:RR.toRowW.claim.within=[]:=List.isEmpty_iff.mp k6
  refine⟨vs,s₁,hlaid,?_⟩
  show wpAny (model pw w) callerA (do match ←nsGet mainNs Jj with
   |some f=>do ret (←PySem.call f vs)
   |none=>unsupported "claim.caller:no-such-global") _ _ s₁
  refine wpAny_bind (wpAny_nsGet G₁.T.g ?_)
  rw[hf]
  refine wpAny_bind (wpAny_mono h (fun v s' q=> ?_) fun e s' q=> ?_)
  ·exact wpAny_pure ⟨_,rfl,have z:=q.laid (c:=RR.toRowW.claim) hsame hwi hi L;⟨z.1,z.2.1,z.2.2,fun x=>absurd x (by decide)⟩⟩
  ·exact have z:=q.laid (c:=RR.toRowW.claim) hsame hwi hi L;⟨z.1,z.2.1,z.2.2,fun x=>absurd x (by decide)⟩
theorem law_at(w:World)(g:Nat→Obj):(S35 w g).heap.nsMap mainGlobals Jj=some (.ref 438):=by kernel_rfl
theorem ints_read{R:WRecords}{cl:Str→Option Addr}{h:Heap}:∀{xs:List WData} {vs:List Value} {as:List Addr},ReadsAllW R cl h vs xs as→WShape.hasItems R xs .int=true→∃ns,IntsAre vs ns∧xs=ns.map .int∧as=[]
 | [],_,_,r,_=>by
   cases r
   exact⟨[],.nil,rfl,rfl⟩
 |_::_,_,_,r,h=>by
  cases r with |cons r1 r2=> ?_
  rw[WShape.hasItems,Bool.and_eq_true]at h
  obtain⟨h1,h2⟩:=h
  obtain⟨ns,k1,rfl,rfl⟩:=ints_read r2 h2
  obtain⟨i,rfl⟩:=hasW_int h1
  obtain⟨t,rfl,rfl⟩:=readsW_int_inv r1
  exact⟨_::ns,.cons _ _ k1,rfl,rfl⟩
noncomputable def VF:Prop:=∀(w:World) (g:Nat→Obj),Facts w g→∀s₁:Shared,(∀b o,(S35 w g).heap.get? b=some o→s₁.heap.get? b=some o)→
 Ground qv US [] (fun _ _=>True) w (S35 w g) ((S35 w g).heap.nsMap mainGlobals) ((S35 w g).heap.nsMap builtinsNs) s₁.heap→s₁.gens=#[]→
 ∀(a:Addr) (o:Obj) (vs:Array Value) (n:Nat) (ns:List Int),439≤a→s₁.heap.get? a=some o→o.cls= .type "list"→o.data= .seq vs n→IntsAre vs.toList ns→ns.length≤63→
  wpAny (model pw w) callerA (PySem.call (.ref 438) [.ref a]) (fun v s'=>v= .bool true∧OldK s₁.heap s'.heap∧s'.os=s₁.os∧AllBare s'.gens) (fun _ _=>False) s₁
theorem law_of_walk(said:RR.wellSaid=true)(h:VF):RR.Holds:=by
 refine row_holds said fun w g hF s₁ keeps G hg args vals as hpre hlay hrd hlo=>⟨_,law_at w g,?_⟩
 obtain⟨h1,h2⟩:=pre_splitW hpre
 cases hrd with
 |nil=>simp[WShape.hasAll,OpenLaw.row]at h1
 |cons r1 r2=>
  rename_i v vs d ds as bs
  have h3:WShape.has [] d (.list .int)=true∧WShape.hasAll [] ds []=true:=by
   have:WShape.hasAll [] (d::ds) [.list .int]=true:=h1
   simpa only[WShape.hasAll,Bool.and_eq_true]using this
  obtain⟨h3,h4⟩:=h3
  cases ds with
  |cons=>simp[WShape.hasAll]at h4
  |nil=>
   cases r2
   obtain⟨xs,rfl,h5⟩:=hasW_list h3
   cases r1
   rename_i a o vs n as ho hc hd hr
   obtain⟨ns,k1,rfl,rfl⟩:=ints_read hr h5
   have hlen:ns.length≤63:=by
    have h2:WTm.holds [] (.and (.not (.lt (.lit (.int 63)) (.len (.arg 0)))) (.lit (.bool true))) {args:=[.list (ns.map .int)]}=true:=h2
    simp[WTm.holds,WTm.value]at h2
    rw[show W.less? (WData.int 63) (WData.int (ns.length:Int))=some (decide ((63:Int)<(ns.length:Int)))from rfl]at h2
    by_cases hl:(63:Int)<(ns.length:Int)
    ·simp[hl]at h2
    ·omega
   refine wpAny_mono (h w g hF s₁ keeps G hg a o vs n ns (hlo a (by simp)) ho hc hd k1 hlen) (fun v s' q=> ?_) fun _ _ q=>q.elim
   obtain⟨rfl,q1,q2,q3⟩:=q
   exact⟨.inl ⟨_,_,_,rfl,fun _=>rfl,.bool true,postC_of (r:=RR.toRowW) (X:=true) rfl (by show WTm.value [] (.eq .res (.lit (.bool true))) _=_;simp only[WTm.value];kernel_rfl) rfl,fun _=>⟨List.nodup_nil,fun _ x=>(nomatch x)⟩⟩,q1,q2,q3⟩
theorem Yv{i m:Nat}(h:i<m+1)(h':m≤i):i=m:=Nat.le_antisymm (Nat.le_of_lt_succ h) h'
theorem UA{m f n:Nat}(h:m+(f+1)=n):m<n:=h▸Nat.lt_add_of_pos_right (Nat.succ_pos f)
theorem KK{m f n:Nat}(h:m+(f+1)=n):m+1+f=n:=(Nat.succ_add_eq_add_succ m f).trans h
theorem Vw{l r:Nat}(h:l<r):l≤(l+r)/2∧(l+r)/2<r:=⟨(Nat.le_div_iff_mul_le (by decide)).mpr (by rw[Nat.mul_two];exact Nat.add_le_add_left (Nat.le_of_lt h) l),(Nat.div_lt_iff_lt_mul (by decide)).mpr (by rw[Nat.mul_two];exact Nat.add_lt_add_right h r)⟩
theorem Xz{α:Type}{a b:α}{l:List α}:a∈b::l↔b=a∨a∈l:=⟨fun h=>(List.mem_cons.mp h).imp Eq.symm id,fun h=>List.mem_cons.mpr (h.imp Eq.symm id)⟩
theorem nd4{α:Type}{a b c d:α}(h:[a,b,c,d].Nodup):a≠b∧a≠c∧a≠d∧b≠c∧b≠d∧c≠d:=by
 obtain⟨h1,h⟩:=List.pairwise_cons.mp h
 obtain⟨h2,h⟩:=List.pairwise_cons.mp h
 exact⟨h1 _ (.head _),h1 _ (.tail _ (.head _)),h1 _ (.tail _ (.tail _ (.head _))),h2 _ (.head _),h2 _ (.tail _ (.head _)),(List.pairwise_cons.mp h).1 _ (.head _)⟩
theorem mem1{α:Type}{x a:α}(h:x∈[a]):a=x:=(List.mem_singleton.mp h).symm
theorem mem2{α:Type}{x a b:α}(h:x∈[a,b]):a=x∨b=x:=(Xz.mp h).imp id mem1
theorem mem3{α:Type}{x a b c:α}(h:x∈[a,b,c]):a=x∨b=x∨c=x:=(Xz.mp h).imp id mem2
theorem mem4{α:Type}{x a b c d:α}(h:x∈[a,b,c,d]):a=x∨b=x∨c=x∨d=x:=(Xz.mp h).imp id mem3
theorem mem5{α:Type}{x a b c d e:α}(h:x∈[a,b,c,d,e]):a=x∨b=x∨c=x∨d=x∨e=x:=(Xz.mp h).imp id mem4
theorem mem6{α:Type}{x a b c d e f:α}(h:x∈[a,b,c,d,e,f]):a=x∨b=x∨c=x∨d=x∨e=x∨f=x:=(Xz.mp h).imp id mem5
theorem mem7{α:Type}{x a b c d e f g:α}(h:x∈[a,b,c,d,e,f,g]):a=x∨b=x∨c=x∨d=x∨e=x∨f=x∨g=x:=(Xz.mp h).imp id mem6
theorem mem8{α:Type}{x a b c d e f g i:α}(h:x∈[a,b,c,d,e,f,g,i]):a=x∨b=x∨c=x∨d=x∨e=x∨f=x∨g=x∨i=x:=(Xz.mp h).imp id mem7
theorem mem9{α:Type}{x a b c d e f g i j:α}(h:x∈[a,b,c,d,e,f,g,i,j]):a=x∨b=x∨c=x∨d=x∨e=x∨f=x∨g=x∨i=x∨j=x:=(Xz.mp h).imp id mem8
theorem mem10{α:Type}{x a b c d e f g i j k:α}(h:x∈[a,b,c,d,e,f,g,i,j,k]):a=x∨b=x∨c=x∨d=x∨e=x∨f=x∨g=x∨i=x∨j=x∨k=x:=(Xz.mp h).imp id mem9
theorem mem11{α:Type}{x a b c d e f g i j k l:α}(h:x∈[a,b,c,d,e,f,g,i,j,k,l]):a=x∨b=x∨c=x∨d=x∨e=x∨f=x∨g=x∨i=x∨j=x∨k=x∨l=x:=(Xz.mp h).imp id mem10
theorem lkc{α β:Type}[BEq α][LawfulBEq α]{x y:α}{v w:β}{l:List (α×β)}(h:((x,v)::l).lookup y=some w):(x=y∧v=w)∨l.lookup y=some w:=by
 rw[List.lookup_cons]at h
 cases e:y==x with
 |true=>rw[e]at h;exact .inl ⟨(eq_of_beq e).symm,Option.some.inj h⟩
 |false=>rw[e]at h;exact .inr h
theorem lk1{α β:Type}[BEq α][LawfulBEq α]{x y:α}{v w:β}(h:[(x,v)].lookup y=some w):x=y∧v=w:=(lkc h).resolve_right fun q=>nomatch q
theorem lk2{α β:Type}[BEq α][LawfulBEq α]{x1 x2 y:α}{v1 v2 w:β}(h:[(x1,v1),(x2,v2)].lookup y=some w):(x1=y∧v1=w)∨x2=y∧v2=w:=(lkc h).imp_right lk1
theorem Vu{α β:Type}[BEq α][LawfulBEq α]{a:α}{o:β}:∀{l:List (α×β)},l.lookup a=some o→(a,o)∈l
 | [],h=>nomatch h
 |_::_,h=>by
  rcases lkc h with⟨rfl,rfl⟩ |h
  ·exact .head _
  ·exact .tail _ (Vu h)
theorem lenS{α:Type}{n:Nat}:∀{vs:List α},vs.length=n+1→∃a l,vs=a::l∧l.length=n
 |a::l,h=>⟨a,l,rfl,Nat.succ.inj h⟩
theorem len1{α:Type}{vs:List α}(h:vs.length=1):∃a,vs=[a]:=List.length_eq_one_iff.mp h
theorem len2{α:Type}{vs:List α}(h:vs.length=2):∃a b,vs=[a,b]:=by
 obtain⟨a,l,rfl,h2⟩:=lenS h
 obtain⟨b,rfl⟩:=len1 h2
 exact⟨a,b,rfl⟩
theorem len3{α:Type}{vs:List α}(h:vs.length=3):∃a b c,vs=[a,b,c]:=by
 obtain⟨a,l,rfl,h2⟩:=lenS h
 obtain⟨b,c,rfl⟩:=len2 h2
 exact⟨a,b,c,rfl⟩
theorem len4{α:Type}{vs:List α}(h:vs.length=4):∃a b c d,vs=[a,b,c,d]:=by
 obtain⟨a,l,rfl,h2⟩:=lenS h
 obtain⟨b,c,d,rfl⟩:=len3 h2
 exact⟨a,b,c,d,rfl⟩
theorem dep2{a n k m R:Nat}(h:a+n<R)(hm:k+m≤n):a+k+m<R:=Nat.lt_of_le_of_lt (by rw[Nat.add_assoc];exact Nat.add_le_add_left hm a) h
noncomputable def Xp(b:Nat):Bool:=b==394||b==425||b==435
inductive PV where
 |none
 |bool (b:Bool)
 |int (i:Int)
 |str (x:Str)
 |tup (l:List PV)
 |lst (l:List PV)
 |val (v:Value)
noncomputable def PTu(h:Heap)(a:Addr)(items:Array Value):Prop:=∃n,h.get? a=some {cls:=.type "tuple",data:=.seq items n}
theorem Xv{b:Addr}(h:439≤b):Xp b=false:=by
 have f:∀k:Nat,k<439→(b==k)=false:=fun k hk=>beq_eq_false_iff_ne.mpr (Nat.ne_of_gt (Nat.lt_of_lt_of_le hk h))
 unfold Xp
 rw[f 394 (by decide),f 425 (by decide),f 435 (by decide)];rfl
noncomputable def tb(V:List Addr)(b:Addr):Bool:=Xp b||decide (b∈V)
theorem Xu{V:List Addr}{b:Addr}(h:tb V b=false):Xp b=false:=by unfold tb at h;rw[Bool.or_eq_false_iff]at h;exact h.1
theorem XM{V:List Addr}{b:Addr}(h:tb V b=false):b∉V:=by unfold tb at h;rw[Bool.or_eq_false_iff]at h;exact of_decide_eq_false h.2
theorem Yx{V:List Addr}{b:Addr}(h1:Xp b=false)(h2:b∉V):tb V b=false:=by unfold tb;rw[h1,decide_eq_false h2];rfl
mutual
noncomputable def Rep(V:List Addr)(h:Heap):PV→Value→Prop
 | .none,v=>v= .none
 | .bool b,v=>v= .bool b
 | .int i,v=>∃t,v= .int i t
 | .str x,v=>∃t,v= .str x t
 | .tup l,v=>∃a vs,v= .ref a∧tb V a=false∧PTu h a vs∧Xb V h l vs.toList
 | .lst l,v=>∃a vs,v= .ref a∧tb V a=false∧h.PlainList a vs∧Xb V h l vs.toList
 | .val u,v=>v=u
noncomputable def Xb(V:List Addr)(h:Heap):List PV→List Value→Prop
 | [],vs=>vs=[]
 |p::ps,vs=>∃v r,vs=v::r∧Rep V h p v∧Xb V h ps r
end
noncomputable def Kp(l:Bool)(s s':Shared):Prop:=∃h' tk,s'={s with heap:=h',toks:=tk}∧∀b o,(l&&Xp b)=false→s.heap.get? b=some o→h'.get? b=some o
theorem Kp.refl{l:Bool}(s:Shared):Kp l s s:=⟨s.heap,s.toks,rfl,fun _ _ _ e=>e⟩
theorem Kp.trans{l:Bool}{s₁ s₂ s₃:Shared}(x:Kp l s₁ s₂)(y:Kp l s₂ s₃):Kp l s₁ s₃:=by
 obtain⟨h,t,rfl,k⟩:=x
 obtain⟨h',t',rfl,k'⟩:=y
 exact⟨h',t',rfl,fun b o n e=>k' b o n (k b o n e)⟩
theorem Kp.of_keeps{l:Bool}{s s':Shared}(x:Keeps s s'):Kp l s s':=by
 obtain⟨h,t,rfl,k⟩:=x
 exact⟨h,t,rfl,fun b o _ e=>k b o e⟩
theorem Kp.tok{l:Bool}{s:Shared}(t:Nat):Kp l s {s with toks:=t}:=⟨s.heap,t,rfl,fun _ _ _ e=>e⟩
theorem Kp.get{l:Bool}{s s':Shared}(x:Kp l s s'){b:Addr}{o:Obj}(n:Xp b=false)(e:s.heap.get? b=some o):s'.heap.get? b=some o:=by
 obtain⟨h,t,rfl,k⟩:=x;exact k b o (by rw[n,Bool.and_false]) e
theorem Kp.weak{l:Bool}{s s':Shared}(x:Kp false s s'):Kp l s s':=let⟨h,t,e,k⟩:=x;⟨h,t,e,fun b o _ y=>k b o rfl y⟩
theorem Kp.push{l:Bool}{s:Shared}(o:Obj)(t:Nat):Kp l s {s with heap:=s.heap.push o,toks:=t}:=⟨_,t,rfl,fun b o' _ e=>Heap.get?_push_of_some _ e⟩
mutual
theorem Rep.two{V U:List Addr}{h h':Heap}(k:∀b c x n,tb V b=false→h.get? b=some ⟨c,Option.none,.seq x n,#[]⟩→tb U b=false∧h'.get? b=some ⟨c,Option.none,.seq x n,#[]⟩):∀(p:PV) (v:Value),Rep V h p v→Rep U h' p v
 | .none,_,r=>by rw[Rep]at r ⊢;exact r
 | .bool _,_,r=>by rw[Rep]at r ⊢;exact r
 | .int _,_,r=>by rw[Rep]at r ⊢;exact r
 | .str _,_,r=>by rw[Rep]at r ⊢;exact r
 | .val _,_,r=>by rw[Rep]at r ⊢;exact r
 | .tup l,v,r=>by
   rw[Rep]at r ⊢
   obtain⟨a,vs,rfl,n,⟨m,e⟩,q⟩:=r
   exact⟨a,vs,rfl,(k _ _ _ _ n e).1,⟨m,(k _ _ _ _ n e).2⟩,Xb.two k l _ q⟩
 | .lst l,v,r=>by
   rw[Rep]at r ⊢
   obtain⟨a,vs,rfl,n,⟨m,e⟩,q⟩:=r
   exact⟨a,vs,rfl,(k _ _ _ _ n e).1,⟨m,(k _ _ _ _ n e).2⟩,Xb.two k l _ q⟩
theorem Xb.two{V U:List Addr}{h h':Heap}(k:∀b c x n,tb V b=false→h.get? b=some ⟨c,Option.none,.seq x n,#[]⟩→tb U b=false∧h'.get? b=some ⟨c,Option.none,.seq x n,#[]⟩):∀(ps:List PV) (vs:List Value),Xb V h ps vs→Xb U h' ps vs
 | [],_,r=>by rw[Xb]at r ⊢;exact r
 |p::ps,vs,r=>by
  rw[Xb]at r ⊢
  obtain⟨v,w,rfl,q,t⟩:=r
  exact⟨v,w,rfl,Rep.two k p v q,Xb.two k ps w t⟩
end
theorem Rep.mono{V:List Addr}{h h':Heap}(k:∀b c x n,tb V b=false→h.get? b=some ⟨c,Option.none,.seq x n,#[]⟩→h'.get? b=some ⟨c,Option.none,.seq x n,#[]⟩)(p:PV)(v:Value)(r:Rep V h p v):Rep V h' p v:=Rep.two (fun b c x n hb e=>⟨hb,k b c x n hb e⟩) p v r
theorem Xb.mono{V:List Addr}{h h':Heap}(k:∀b c x n,tb V b=false→h.get? b=some ⟨c,Option.none,.seq x n,#[]⟩→h'.get? b=some ⟨c,Option.none,.seq x n,#[]⟩)(p:List PV)(v:List Value)(r:Xb V h p v):Xb V h' p v:=Xb.two (fun b c x n hb e=>⟨hb,k b c x n hb e⟩) p v r
theorem Rep.sub{V U:List Addr}{h:Heap}(k:∀b c x n,tb V b=false→h.get? b=some ⟨c,Option.none,.seq x n,#[]⟩→tb U b=false)(p:PV)(v:Value)(r:Rep V h p v):Rep U h p v:=Rep.two (fun b c x n hb e=>⟨k b c x n hb e,e⟩) p v r
theorem Xb.sub{V U:List Addr}{h:Heap}(k:∀b c x n,tb V b=false→h.get? b=some ⟨c,Option.none,.seq x n,#[]⟩→tb U b=false)(p:List PV)(v:List Value)(r:Xb V h p v):Xb U h p v:=Xb.two (fun b c x n hb e=>⟨k b c x n hb e,e⟩) p v r
noncomputable def Yd(V:List Addr)(h:Heap):Prop:=∀b∈V,439≤b∧∃o,h.get? b=some o
theorem Yd.new{V:List Addr}{h:Heap}(x:Yd V h)(hb:439≤h.objs.size):tb V h.objs.size=false:=Yx (Xv hb) fun m=>by
 obtain⟨_,o,e⟩:=x _ m
 exact absurd (Heap.lt_size e) (Nat.lt_irrefl _)
theorem Yd.kp{V:List Addr}{l:Bool}{s s':Shared}(x:Yd V s.heap)(k:Kp l s s'):Yd V s'.heap:=fun b hb=>
 let⟨h,o,e⟩:=x b hb;⟨h,o,k.get (Xv h) e⟩
noncomputable def KpF(l:Bool)(F:List Addr)(s s':Shared):Prop:=∃h' tk,s'={s with heap:=h',toks:=tk}∧∀b o,(l&&Xp b)=false→b∉F→s.heap.get? b=some o→h'.get? b=some o
theorem KpF.of{l:Bool}{F:List Addr}{s s':Shared}(k:Kp l s s'):KpF l F s s':=let⟨h,t,e,k⟩:=k;⟨h,t,e,fun b o n _ x=>k b o n x⟩
theorem KpF.trans{l:Bool}{F:List Addr}{s₁ s₂ s₃:Shared}(x:KpF l F s₁ s₂)(y:KpF l F s₂ s₃):KpF l F s₁ s₃:=by
 obtain⟨h,t,rfl,k⟩:=x
 obtain⟨h',t',rfl,k'⟩:=y
 exact⟨h',t',rfl,fun b o n m e=>k' b o n m (k b o n m e)⟩
theorem KpF.sub{l:Bool}{F G:List Addr}{s s':Shared}(k:KpF l F s s')(h:∀b∈F,b∈G):KpF l G s s':=let⟨a,t,e,q⟩:=k;⟨a,t,e,fun b o n m x=>q b o n (fun y=>m (h b y)) x⟩
theorem KpF.drop{l:Bool}{F G:List Addr}{s s':Shared}(k:KpF l F s s')(h:∀b∈F,b∉G→s.heap.get? b=none):KpF l G s s':=let⟨a,t,e,q⟩:=k;⟨a,t,e,fun b o n m x=>q b o n (fun y=>by rw[h b y m]at x;cases x) x⟩
theorem KpF.get{l:Bool}{F:List Addr}{s s':Shared}(x:KpF l F s s'){b:Addr}{o:Obj}(n:Xp b=false)(m:b∉F)(e:s.heap.get? b=some o):s'.heap.get? b=some o:=by
 obtain⟨h,t,rfl,k⟩:=x;exact k b o (by rw[n,Bool.and_false]) m e
theorem Rep.kp{V:List Addr}{l:Bool}{s s':Shared}(k:Kp l s s'){p:PV}{v:Value}(r:Rep V s.heap p v):Rep V s'.heap p v:=r.mono fun b c x m n e=>k.get (Xu n) e
theorem Xb.kp{V:List Addr}{l:Bool}{s s':Shared}(k:Kp l s s'){p:List PV}{v:List Value}(r:Xb V s.heap p v):Xb V s'.heap p v:=r.mono fun b c x m n e=>k.get (Xu n) e
theorem YM{V:List Addr}{h:Heap}{p:PV}{ps:List PV}{vs:List Value}(r:Xb V h (p::ps) vs):∃v r,vs=v::r∧Rep V h p v∧Xb V h ps r:=by
 rw[Xb]at r;exact r
theorem Yh{V:List Addr}{h:Heap}{vs:List Value}(r:Xb V h [] vs):vs=[]:=by
 rw[Xb]at r;exact r
inductive RepL1(V:List Addr)(h:Heap)(p1:PV):List Value→Prop
 |mk (v1:Value) (r1:Rep V h p1 v1):RepL1 V h p1 [v1]
theorem Uv{V:List Addr}{h:Heap}{p1:PV}{vs:List Value}(r:Xb V h [p1] vs):RepL1 V h p1 vs:=by
 obtain⟨v1,_,rfl,r1,r⟩:=YM r
 obtain rfl:=Yh r
 exact⟨v1,r1⟩
inductive RepL2(V:List Addr)(h:Heap)(p1 p2:PV):List Value→Prop
 |mk (v1 v2:Value) (r1:Rep V h p1 v1) (r2:Rep V h p2 v2):RepL2 V h p1 p2 [v1,v2]
theorem Wi{V:List Addr}{h:Heap}{p1 p2:PV}{vs:List Value}(r:Xb V h [p1,p2] vs):RepL2 V h p1 p2 vs:=by
 obtain⟨v1,_,rfl,r1,r⟩:=YM r
 obtain⟨v2,_,rfl,r2,r⟩:=YM r
 obtain rfl:=Yh r
 exact⟨v1,v2,r1,r2⟩
inductive RepL3(V:List Addr)(h:Heap)(p1 p2 p3:PV):List Value→Prop
 |mk (v1 v2 v3:Value) (r1:Rep V h p1 v1) (r2:Rep V h p2 v2) (r3:Rep V h p3 v3):RepL3 V h p1 p2 p3 [v1,v2,v3]
theorem Ws{V:List Addr}{h:Heap}{p1 p2 p3:PV}{vs:List Value}(r:Xb V h [p1,p2,p3] vs):RepL3 V h p1 p2 p3 vs:=by
 obtain⟨v1,_,rfl,r1,r⟩:=YM r
 obtain⟨v2,_,rfl,r2,r⟩:=YM r
 obtain⟨v3,_,rfl,r3,r⟩:=YM r
 obtain rfl:=Yh r
 exact⟨v1,v2,v3,r1,r2,r3⟩
noncomputable def Base(w:World)(g:Nat→Obj)(s:Shared):Prop:=(∀b o,Xp b=false→(S35 w g).heap.get? b=some o→s.heap.get? b=some o)∧s.gens=#[]
theorem Base.kp{l:Bool}{w:World}{g:Nat→Obj}{s s':Shared}(k:Kp l s s')(B:Base w g s):Base w g s':=by
 refine⟨fun b o n e=>k.get n (B.1 b o n e),?_⟩
 obtain⟨h,t,rfl,_⟩:=k
 exact B.2
structure FrSt(V:List Addr)(env:Env)(ρ:List (Str×PV))(s:Shared):Prop where
 ns:∃m,s.heap.Ns env.locals m∧∀x pv,ρ.lookup x=some pv→env.kindOf x=some .local→∃v,m x=some v∧Rep V s.heap pv v
 cell:∀x pv,ρ.lookup x=some pv→(env.kindOf x=some .cell∨env.kindOf x=some .free)→∃c v,env.cells.lookup x=some c∧Xp c=false∧s.heap.IsCell c (some v)∧Rep V s.heap pv v
 high:439≤env.locals
 there:∀x c,env.cells.lookup x=some c→439≤c∧∃v,s.heap.IsCell c v
 vol:Yd V s.heap
 apart:∀x y c,env.cells.lookup x=some c→env.cells.lookup y=some c→x=y
theorem FrSt.tab{V:List Addr}{env:Env}{ρ:List (Str×PV)}{s:Shared}(F:FrSt V env ρ s):Xp env.locals=false:=Xv F.high
theorem JP{h h':Heap}{a:Addr}{m:Str→Option Value}(k:∀o,h.get? a=some o→h'.get? a=some o)(x:h.Ns a m):h'.Ns a m:=
 let⟨o,es,ep,ho,r⟩:=x;⟨o,es,ep,k o ho,r⟩
theorem FrSt.kp{V:List Addr}{l:Bool}{env:Env}{ρ:List (Str×PV)}{s s':Shared}(k:Kp l s s')(F:FrSt V env ρ s):FrSt V env ρ s':=by
 refine⟨?_,fun x pv hx hk=> ?_,F.high,fun x c hc=>let⟨n,v,o,ho,hd⟩:=F.there x c hc;⟨n,v,o,k.get (Xv n) ho,hd⟩,F.vol.kp k,F.apart⟩
 ·obtain⟨m,hn,hm⟩:=F.ns
  refine⟨m,JP (fun o e=>k.get F.tab e) hn,fun x pv hx hk=> ?_⟩
  obtain⟨v,hv,hr⟩:=hm x pv hx hk
  exact⟨v,hv,hr.kp k⟩
 ·obtain⟨c,v,hc,ht,⟨o,ho,hd⟩,hr⟩:=F.cell x pv hx hk
  exact⟨c,v,hc,ht,⟨o,k.get ht ho,hd⟩,hr.kp k⟩
structure Cx where
 w:World
 g:Nat→Obj
 A:Around
 env:Env
 ρ:List (Str×PV)
 lam:Bool
 V:List Addr
 X:Shared→Prop
 hX:∀s s',X s→KpF lam (env.locals::env.cells.map (·.2)) s s'→X s'
 hh:A.handled=none
 kind:env.scope.kind= .function
 globs:env.globals=mainGlobals
 blts:env.builtins=builtinsNs
 ground:(S35 w g).heap.Ns mainGlobals ((S35 w g).heap.nsMap mainGlobals)∧(S35 w g).heap.Ns builtinsNs ((S35 w g).heap.nsMap builtinsNs)
noncomputable def Cx.wr(c:Cx)(ρ:List (Str×PV)):Cx:={c with ρ:=ρ}
noncomputable def Cx.St(c:Cx)(s:Shared):Prop:=Base c.w c.g s∧FrSt c.V c.env c.ρ s∧c.X s
theorem Cx.St.kp{c:Cx}{s s':Shared}(h:c.St s)(k:Kp c.lam s s'):c.St s':=⟨h.1.kp k,h.2.1.kp k,c.hX _ _ h.2.2 (.of k)⟩
theorem Cx.St.g{c:Cx}{s:Shared}(h:c.St s):s.heap.Ns c.env.globals ((S35 c.w c.g).heap.nsMap mainGlobals):=by
 rw[c.globs];exact JP (fun o e=>h.1.1 _ o rfl e) c.ground.1
theorem Cx.St.b{c:Cx}{s:Shared}(h:c.St s):s.heap.Ns c.env.builtins ((S35 c.w c.g).heap.nsMap builtinsNs):=by
 rw[c.blts];exact JP (fun o e=>h.1.1 _ o rfl e) c.ground.2
noncomputable def Gives'(c:Cx)(t:Sem Value)(pv:PV):Prop:=∀s,c.St s→wpAny (model pw c.w) c.A t (fun v s'=>Rep c.V s'.heap pv v∧Kp c.lam s s') (fun _ _=>False) s
structure EvOk(c:Cx)(e:PySem.Expr)(pv:PV):Prop where
 go:Gives' c (eval e c.env) pv
section
variable{c:Cx}
theorem Xi{t:PySem.Expr}{pv:PV}{Q:Value→Shared→Prop}{E:Value→Shared→Prop}{s:Shared}(h:EvOk c t pv)(hs:c.St s)(k:∀v s',Rep c.V s'.heap pv v→Kp c.lam s s'→c.St s'→Q v s'):
 wpAny (model pw c.w) c.A (eval t c.env) Q E s:=wpAny_mono (h.go s hs) (fun v s' q=>k v s' q.1 q.2 (hs.kp q.2)) fun _ _ x=>x.elim
theorem Xa{x:Str}{pos:Pos}{pv:PV}(hx:c.ρ.lookup x=some pv)(hk:(match c.env.kindOf x with |some .local |some .cell |some .free=>true |_=>false)=true)
(hd:(x==("__debug__":Str))=false)(hd':(x==("__classdict__":Str))=false):EvOk c (.Name x pos) pv:=.mk fun s hs=>by
 refine wpAny_Name ?_ hd
 have F:=hs.2.1
 cases hq:c.env.kindOf x with
 |none=>rw[hq]at hk;cases hk
 |some k=>
  rw[hq]at hk
  cases k<;>first | (exfalso;cases hk;done) |skip
  case «local» =>
   obtain⟨m,hn,hm⟩:=F.ns
   obtain⟨v,hv,hr⟩:=hm x pv hx hq
   exact wpAny_loadName_local c.kind hq hn hv ⟨hr,.refl s⟩
  case cell=>
   obtain⟨a,v,hc,_,hi,hr⟩:=F.cell x pv hx (.inl hq)
   exact wpAny_loadName_cell c.kind hq hc hi ⟨hr,.refl s⟩
  case free=>
   obtain⟨a,v,hc,_,hi,hr⟩:=F.cell x pv hx (.inr hq)
   exact wpAny_loadName_free c.kind hq hc hi ⟨hr,.refl s⟩ (by simpa using hd')
theorem XA{x:Str}{pos:Pos}{v:Value}(hk:c.env.kindOf x=some .globalImplicit)(hm:(S35 c.w c.g).heap.nsMap mainGlobals x=some v)
(hd:(x==("__debug__":Str))=false):EvOk c (.Name x pos) (.val v):=.mk fun s hs=>
 Name_function_global c.kind hk (loadGlobal_global hs.g hm ⟨by rw[Rep],.refl s⟩) hd
theorem Xm{x:Str}{pos:Pos}{v:Value}(hk:c.env.kindOf x=some .globalImplicit)(hm:(S35 c.w c.g).heap.nsMap mainGlobals x=none)(hb:(S35 c.w c.g).heap.nsMap builtinsNs x=some v)
(hd:(x==("__debug__":Str))=false):EvOk c (.Name x pos) (.val v):=.mk fun s hs=>
 Name_function_global c.kind hk (loadGlobal_builtin hs.g hm hs.b hb ⟨by rw[Rep],.refl s⟩) hd
end
theorem Xb.length{V:List Addr}{h:Heap}:∀{ps:List PV} {vs:List Value},Xb V h ps vs→vs.length=ps.length
 | [],vs,r=>by rw[Xb]at r;subst r;rfl
 |p::ps,vs,r=>by
  rw[Xb]at r
  obtain⟨v,w,rfl,_,t⟩:=r
  simp[t.length]
theorem Base.size{w:World}{g:Nat→Obj}{s:Shared}(B:Base w g s):439≤s.heap.objs.size:=by
 have h:∃o,(S35 w g).heap.get? 438=some o:=⟨o438 w.params,by kernel_rfl⟩
 obtain⟨o,ho⟩:=h
 exact Heap.lt_size (B.1 438 o rfl ho)
section
variable{c:Cx}
theorem Xe{i:Int}{k:Nat}{pos:Pos}:EvOk c (.Constant (.int i) k pos) (.int i):=.mk fun s hs=>by
 exact fun Γ p hΓ=>⟨by rw[Rep];exact⟨_,rfl⟩,.tok _⟩
theorem XK{x:Str}{k:Nat}{pos:Pos}:EvOk c (.Constant (.str x) k pos) (.str x):=.mk fun s hs=>Constant_str ⟨by rw[Rep];exact⟨_,rfl⟩,.tok _⟩
theorem YI{k:Nat}{pos:Pos}:EvOk c (.Constant .none k pos) .none:=.mk fun s hs=>wpAny_pure ⟨by rw[Rep],.refl s⟩
theorem JB{b:Bool}{k:Nat}{pos:Pos}:EvOk c (.Constant (.bool b) k pos) (.bool b):=.mk fun s hs=>wpAny_pure ⟨by rw[Rep],.refl s⟩
noncomputable def KX(c:Cx)(op:Operator)(p q r:PV):Prop:=∀s v u,c.St s→Rep c.V s.heap p v→Rep c.V s.heap q u→wpAny (model pw c.w) c.A (binaryOp op v u) (fun x s'=>Rep c.V s'.heap r x∧Kp c.lam s s') (fun _ _=>False) s
theorem XI{a b:PySem.Expr}{op:Operator}{pos:Pos}{p q r:PV}(ha:EvOk c a p)(hb:EvOk c b q)(ho:KX c op p q r):EvOk c (.BinOp a op b pos) r:=.mk fun s hs=>by
 rw[arm_eval_BinOp]
 refine wpAny_bind (Xi ha hs fun v s₁ r₁ k₁ st₁=> ?_)
 refine wpAny_bind (wpAny_holding (Xi hb st₁ fun u s₂ r₂ k₂ st₂=> ?_))
 refine wpAny_bind (wpAny_standAt ?_)
 refine wpAny_operate' ?_
 exact wpAny_mono (ho s₂ v u st₂ (r₁.kp k₂) r₂) (fun x s' q=>⟨q.1,(k₁.trans k₂).trans q.2⟩) (fun _ _ x=>x)
structure YK(c:Cx)(pos:Pos)(es:List PySem.Expr)(ps:List PV):Prop where
 go:∀s,c.St s→wpAny (model pw c.w) c.A (spliced (backTo pos (starEach es c.env))) (fun vs s'=>Xb c.V s'.heap ps vs∧Kp c.lam s s') (fun _ _=>False) s
theorem Xd{pos:Pos}:YK c pos [] []:=.mk fun s hs=>spliced_nil ⟨by rw[Xb],.refl s⟩
theorem Xc{pos:Pos}{e:PySem.Expr}{es:List PySem.Expr}{p:PV}{ps:List PV}(hx:EvOk c e p)(hr:YK c pos es ps)(hst:XV e=false):YK c pos (e::es) (p::ps):=.mk fun s hs=>by
 rw[Xt hst]
 show wpAny _ _ (spliced ((false,eval e c.env)::backTo pos (starEach es c.env))) _ _ _
 refine spliced_cons (Xi hx hs fun v s₁ r₁ k₁ st₁=> ?_)
 exact wpAny_mono (hr.go s₁ st₁) (fun vs s' q=>⟨by rw[Xb];exact⟨v,vs,rfl,r₁.kp q.2,q.1⟩,k₁.trans q.2⟩) (fun _ _ x=>x)
theorem XZ{l:Bool}{s:Shared}(o:Obj):Kp l s {s with heap:=s.heap.push o}:=⟨_,s.toks,rfl,fun b o' _ e=>Heap.get?_push_of_some _ e⟩
theorem Zp{h:Heap}{o:Obj}(ho:o.isFreed=false):(h.push o).get? h.objs.size=some o:=Heap.get?_push_size _ ho
theorem JA{pos:Pos}{es:List PySem.Expr}{ps:List PV}(ha:YK c pos es ps)(hl:ps.length≤sizeLine):EvOk c (.List es pos) (.lst ps):=.mk fun s hs=>by
 refine wpAny_List_spliced (wpAny_mono (ha.go s hs) (fun vs s₁ q=> ?_) fun _ _ x=>x)
 refine⟨by rw[q.1.length];exact hl,?_,q.2.trans (XZ _)⟩
 rw[Rep]
 exact⟨_,_,rfl,(hs.kp q.2).2.1.vol.new (hs.kp q.2).1.size,⟨0,Zp rfl⟩,by rw[List.toList_toArray];exact q.1.kp (XZ (l:=c.lam) (s:=s₁) _)⟩
theorem Yp{pos:Pos}{k}{es:List PySem.Expr}{ps:List PV}(ha:YK c pos es ps)(hl:ps.length≤sizeLine):EvOk c (.Tuple es k pos) (.tup ps):=.mk fun s hs=>by
 refine wpAny_Tuple_spliced (wpAny_mono (ha.go s hs) (fun vs s₁ q=> ?_) fun _ _ x=>x)
 refine⟨by rw[q.1.length];exact hl,?_,q.2.trans (XZ _)⟩
 rw[Rep]
 exact⟨_,_,rfl,(hs.kp q.2).2.1.vol.new (hs.kp q.2).1.size,⟨0,Zp rfl⟩,by rw[List.toList_toArray];exact q.1.kp (XZ (l:=c.lam) (s:=s₁) _)⟩
noncomputable def ZZ(c:Cx)(f:Value)(ps:List PV)(r:PV):Prop:=∀s vs,c.St s→Xb c.V s.heap ps vs→wpAny (model pw c.w) c.A (PySem.call f vs) (fun x s'=>Rep c.V s'.heap r x∧Kp c.lam s s') (fun _ _=>False) s
theorem ZM{pos:Pos}{env:Env}:∀{es:List PySem.Expr},es.all (fun e=> !XV e)=true→(backTo pos (starEach es env)).any (·.1)=false
 | [],_=>rfl
 |e::es,h=>by
  rw[List.all_cons,Bool.and_eq_true]at h
  have h1:XV e=false:=by simpa using h.1
  rw[Xt h1]
  show(false||(backTo pos (starEach es env)).any (·.1))=false
  rw[ZM h.2];rfl
theorem YA{pos:Pos}{f:Value}{es:List PySem.Expr}{ps:List PV}{Q:Args→Shared→Prop}{E:Value→Shared→Prop}{s:Shared}(ha:YK c pos es ps)(hn:es.all (fun e=> !XV e)=true)(hs:c.St s)
(h:∀vs s',Xb c.V s'.heap ps vs→Kp c.lam s s'→Q ⟨vs,[]⟩ s'):wpAny (model pw c.w) c.A (evalArgs f true (backTo pos (starEach es c.env)) []) Q E s:=by
 cases es with
 |nil=>
  unfold evalArgs
  show wpAny _ _ (spliced [] >>= _) Q E s
  refine wpAny_bind (wpAny_mono (ha.go s hs) (fun vs s' q=> ?_) fun _ _ x=>x.elim)
  refine wpAny_bind (wpAny_pure ?_)
  refine wpAny_holding ?_
  exact wpAny_bind (wpAny_pure (wpAny_bind (wpAny_pure (wpAny_pure (h vs s' q.1 q.2)))))
 |cons e es=>
  rw[List.all_cons,Bool.and_eq_true]at hn
  have h1:XV e=false:=by simpa using hn.1
  have:=ha.go s hs
  rw[Xt h1]at this ⊢
  exact evalArgs_plain (wpAny_mono this (fun vs s' q=>h vs s' q.1 q.2) fun _ _ x=>x.elim)
noncomputable def Callee(w:World)(g:Nat→Obj)(f:Value):Prop:=(∃id,f= .builtin id)∨(∃T,f= .type T)∨∃a o fd,f= .ref a∧Xp a=false∧(S35 w g).heap.get? a=some o∧o.data= .func fd
theorem callWith_all{pos:Pos}{f:Value}{es:List PySem.Expr}{ps:List PV}{r:PV}{s:Shared}{Q:Value→Shared→Prop}(ha:YK c pos es ps)(hn:es.all (fun e=> !XV e)=true)(hs:c.St s)(hf:Callee c.w c.g f)
(hc:ZZ c f ps r)(h:∀v s',Rep c.V s'.heap r v→Kp c.lam s s'→Q v s'):wpAny (model pw c.w) c.A (callWith pos f [] (backTo pos (starEach es c.env)) []) Q (fun _ _=>False) s:=by
 have hc':∀vs s',Xb c.V s'.heap ps vs→Kp c.lam s s'→wpAny (model pw c.w) c.A (PySem.call f vs) Q (fun _ _=>False) s':=fun vs s' q k=>
  wpAny_mono (hc s' vs (hs.kp k) q) (fun v s'' q'=>h v s'' q'.1 (k.trans q'.2)) fun _ _ x=>x
 rcases hf with⟨id,rfl⟩ | ⟨T,rfl⟩ | ⟨a,o,fd,rfl,ht,ho,hd⟩
 ·exact callWith_builtin (ZM hn) (YA ha hn hs fun vs s' q k=>hc' vs s' q k)
 ·exact PyProof.Rows.callWith_type (ZM hn) (YA ha hn hs fun vs s' q k=>hc' vs s' q k)
 ·exact callWith_function (o:=o) (fd:=fd) (YA ha hn hs fun vs s' q k=>⟨⟨(hs.kp k).1.1 _ _ ht ho,hd⟩,hc' vs s' q k⟩)
theorem XQ{f:PySem.Str}{np pos:Pos}{es:List PySem.Expr}{ps:List PV}{fv:Value}{r:PV}(hf:EvOk c (.Name f np) (.val fv))(ha:YK c pos es ps)(hn:es.all (fun e=> !XV e)=true)(hk:Callee c.w c.g fv)
(hc:ZZ c fv ps r):EvOk c (.Call (.Name f np) es [] pos) r:=.mk fun s hs=>by
 show wpAny _ _ (eval (.Name f np) c.env >>= fun f=>callWith pos f [] (backTo pos (starEach es c.env)) (backToKw pos (keywordEach [] c.env))) _ _ s
 refine wpAny_bind (Xi hf hs fun v s₁ r₁ k₁ st₁=> ?_)
 rw[Rep]at r₁
 subst r₁
 exact callWith_all ha hn st₁ hk hc fun v s' q k=>⟨q,k₁.trans k⟩
end
noncomputable def Cx.fr(c:Cx):List Addr:=c.env.locals::c.env.cells.map (·.2)
noncomputable def Cx.set(c:Cx)(x:Str)(p:PV):Cx:=c.wr ((x,p)::c.ρ)
theorem Zu{α:Type}{x:Str}{a:α}{l:List (Str×α)}(h:l.lookup x=some a):a∈l.map (·.2):=List.mem_map.mpr ⟨_,Vu h,rfl⟩
theorem YO{x y:Str}{p q:PV}{ρ:List (Str×PV)}(h:((x,p)::ρ).lookup y=some q):(y=x∧q=p)∨(y≠x∧ρ.lookup y=some q):=by
 rw[List.lookup_cons]at h
 cases hx:y==x with
 |true=>rw[hx]at h;cases h;exact .inl ⟨eq_of_beq hx,rfl⟩
 |false=>rw[hx]at h;exact .inr ⟨fun e=>by subst e;simp at hx,h⟩
theorem Rep.same{V:List Addr}{h h':Heap}{a:Addr}(hs:Heap.SameBut a h h')(hn:∀c x n,h.get? a≠some ⟨c,Option.none,.seq x n,#[]⟩){p:PV}{v:Value}(r:Rep V h p v):Rep V h' p v:=
 r.mono fun b c x n _ e=>by
  have:b≠a:=fun q=>hn c x n (q▸e)
  rw[hs.2 b this];exact e
theorem Us{w:World}{g:Nat→Obj}{b:Addr}{o:Obj}(h:(S35 w g).heap.get? b=some o):b<439:=by
 have:=Heap.lt_size h
 rw[show(S35 w g).heap.objs.size=439 by show(L_35 w.params g).toArray.size=439;rw[List.size_toArray,Wa]]at this
 exact this
theorem Base.same{w:World}{g:Nat→Obj}{s:Shared}(B:Base w g s){a:Addr}{h':Heap}{t:Nat}(ha:439≤a)(hs:Heap.SameBut a s.heap h'):Base w g {s with heap:=h',toks:=t}:=
 ⟨fun b o n e=>by
   have:b≠a:=fun q=>absurd (Us e) (by rw[q];exact Nat.not_lt.mpr ha)
   show h'.get? b=some o
   rw[hs.2 b this];exact B.1 b o n e,B.2⟩
theorem Yd.same{V:List Addr}{h h':Heap}{a:Addr}(x:Yd V h)(hs:Heap.SameBut a h h')(ha:∃o,h'.get? a=some o):Yd V h':=fun b hb=>by
 obtain⟨h1,o,e⟩:=x b hb
 by_cases q:b=a
 ·subst q;exact⟨h1,ha⟩
 ·exact⟨h1,o,by rw[hs.2 b q];exact e⟩
theorem Zj{c:Cx}{A:Around}{x:Str}{p:PV}{v:Value}{Q:Unit→Shared→Prop}{E:Value→Shared→Prop}{s:Shared}(hs:c.St s)(hv:Rep c.V s.heap p v)
(hk:c.env.kindOf x=some .local∨(c.env.kindOf x=some .cell∧(c.env.cells.lookup x).isSome=true))(h:∀s',(c.set x p).St s'→KpF c.lam c.fr s s'→Q () s'):wpAny (model pw c.w) A (storeName c.env x v) Q E s:=by
 obtain⟨B,F,hX⟩:=hs
 obtain⟨m,hn,hm⟩:=F.ns
 have below:∀b o,(S35 c.w c.g).heap.get? b=some o→True:=fun _ _ _=>trivial
 rcases hk with hk | ⟨hk,hc⟩
 ·refine wpAny_storeName_local hk hn (fun h' hn' hsb=> ?_) (by rw[c.kind];rfl)
  have k:KpF c.lam c.fr s {s with heap:=h',toks:=s.toks+1}:=⟨h',_,rfl,fun b o _ m e=>by
   have:b≠c.env.locals:=fun q=>m (by rw[q];exact List.mem_cons_self ..)
   rw[hsb.2 b this];exact e⟩
  have nseq:∀d x n,s.heap.get? c.env.locals≠some ⟨d,Option.none,.seq x n,#[]⟩:=fun d x n e=>by
   obtain⟨o,es,ep,ho,hd,_⟩:=hn
   rw[e]at ho
   obtain rfl:=Option.some.inj ho
   cases hd
  refine h _ ⟨?_,⟨⟨_,hn',fun y pv hy hky=> ?_⟩,fun y pv hy hky=> ?_,F.high,fun y a ha=> ?_,F.vol.same hsb (let⟨o,_,_,ho,_⟩:=hn';⟨o,ho⟩),F.apart⟩,c.hX _ _ hX k⟩ k
  ·exact B.same F.high hsb
  ·rcases YO hy with⟨rfl,rfl⟩ | ⟨hne,hy⟩
   ·exact⟨v,by simp,hv.same hsb nseq⟩
   ·obtain⟨u,hu,hr⟩:=hm y pv hy hky
    exact⟨u,by simp[hne,hu],hr.same hsb nseq⟩
  ·rcases YO hy with⟨rfl,rfl⟩ | ⟨hne,hy⟩
   ·rcases hky with q |q<;>(have q':c.env.kindOf y=_:=q;rw[hk]at q';cases q')
   ·obtain⟨a,u,ha,ht,⟨o,ho,hd⟩,hr⟩:=F.cell y pv hy hky
    refine⟨a,u,ha,ht,⟨o,?_,hd⟩,hr.same hsb nseq⟩
    show h'.get? a=some o
    rw[hsb.2 a (fun q=>by
     obtain⟨o',es,ep,ho',hd',_⟩:=hn
     rw[q,ho']at ho
     obtain rfl:=Option.some.inj ho
     rw[hd']at hd;cases hd)]
    exact ho
  ·obtain⟨ht,u,o,ho,hd⟩:=F.there y a ha
   refine⟨ht,u,o,?_,hd⟩
   show h'.get? a=some o
   rw[hsb.2 a (fun q=>by
      obtain⟨o',es,ep,ho',hd',_⟩:=hn
      rw[q,ho']at ho
      obtain rfl:=Option.some.inj ho
      rw[hd']at hd;cases hd)]
   exact ho
 ·obtain⟨a,ha⟩:=Option.isSome_iff_exists.mp hc
  obtain⟨hi,u,hu⟩:=F.there x a ha
  refine wpAny_storeName_cell c.kind hk ha hu fun h' hu' hsb=> ?_
  have k:KpF c.lam c.fr s {s with heap:=h'}:=⟨h',s.toks,rfl,fun b o _ m e=>by
   have:b≠a:=fun q=>m (by rw[q];exact List.mem_cons_of_mem _ (Zu ha))
   rw[hsb.2 b this];exact e⟩
  obtain⟨o,ho,hd⟩:=hu
  have nseq:∀d x n,s.heap.get? a≠some ⟨d,Option.none,.seq x n,#[]⟩:=fun d x n e=>by
   rw[e]at ho
   obtain rfl:=Option.some.inj ho
   cases hd
  have hla:c.env.locals≠a:=fun q=>by
   obtain⟨o',es,ep,ho',hd',_⟩:=hn
   rw[q,ho]at ho'
   obtain rfl:=Option.some.inj ho'
   rw[hd]at hd';cases hd'
  refine h _ ⟨B.same hi hsb,⟨⟨m,JP (fun o e=>by show h'.get? c.env.locals=some o;rw[hsb.2 _ hla];exact e) hn,fun y pv hy hky=> ?_⟩,fun y pv hy hky=> ?_,F.high,fun y b hb=> ?_,F.vol.same hsb (let⟨o,ho,_⟩:=hu';⟨o,ho⟩),F.apart⟩,c.hX _ _ hX k⟩ k
  ·rcases YO hy with⟨rfl,rfl⟩ | ⟨hne,hy⟩
   ·have q':c.env.kindOf y=_:=hky
    rw[hk]at q';cases q'
   ·obtain⟨u,hu,hr⟩:=hm y pv hy hky
    exact⟨u,hu,hr.same hsb nseq⟩
  ·rcases YO hy with⟨rfl,rfl⟩ | ⟨hne,hy⟩
   ·exact⟨a,v,ha,Xv hi,hu',hv.same hsb nseq⟩
   ·obtain⟨b,u,hb,ht,⟨o',ho',hd'⟩,hr⟩:=F.cell y pv hy hky
    refine⟨b,u,hb,ht,⟨o',?_,hd'⟩,hr.same hsb nseq⟩
    show h'.get? b=some o'
    rw[hsb.2 b (fun q=>hne (F.apart y x a (q▸hb) ha))]
    exact ho'
  ·by_cases hq:b=a
   ·subst hq;exact⟨hi,_,hu'⟩
   ·obtain⟨ht,u',o',ho',hd'⟩:=F.there y b hb
    exact⟨ht,u',o',by show h'.get? b=some o';rw[hsb.2 b hq];exact ho',hd'⟩
inductive Out where
 |next (ρ:List (Str×PV))
 |ret (r:PV)
 |cont (ρ:List (Str×PV))
 |brk (ρ:List (Str×PV))
noncomputable def VM(c:Cx):Out→Flow→Shared→Prop
 | .next ρ,f,s=>f= .next∧(c.wr ρ).St s
 | .cont ρ,f,s=>f= .cont∧(c.wr ρ).St s
 | .brk ρ,f,s=>f= .brk∧(c.wr ρ).St s
 | .ret r,f,s=>∃v,f= .ret v∧Rep c.V s.heap r v
structure XU(c:Cx)(b:List Stmt)(o:Out):Prop where
 go:∀s,c.St s→wpAny (model pw c.w) c.A (execs b c.env) (fun f s'=>VM c o f s'∧KpF c.lam c.fr s s') (fun _ _=>False) s
structure ZY(c:Cx)(b:Stmt)(o:Out):Prop where
 go:∀s,c.St s→wpAny (model pw c.w) c.A (exec b c.env) (fun f s'=>VM c o f s'∧KpF c.lam c.fr s s') (fun _ _=>False) s
section
variable{c:Cx}
theorem YT{ρ:List (Str×PV)}:XU (c.wr ρ) [] (.next ρ):=.mk fun s hs=>wpAny_execs_nil ⟨⟨rfl,hs⟩,.of (.refl s)⟩
theorem Yj{st:Stmt}{rest:List Stmt}{ρ₀ ρ:List (Str×PV)}{o:Out}(h:ZY (c.wr ρ₀) st (.next ρ))(hr:XU (c.wr ρ) rest o):XU (c.wr ρ₀) (st::rest) o:=.mk fun s hs=>by
 refine wpAny_execs_cons (wpAny_mono (h.go s hs) (fun f s' q=> ?_) fun _ _ x=>x)
 obtain⟨⟨rfl,st'⟩,k⟩:=q
 refine wpAny_mono (hr.go s' st') (fun f' s'' q'=>⟨?_,k.trans q'.2⟩) fun _ _ x=>x
 cases o<;>exact q'.1
theorem Yg{st:Stmt}{rest:List Stmt}{r:PV}(h:ZY c st (.ret r)):XU c (st::rest) (.ret r):=.mk fun s hs=>by
 refine wpAny_execs_cons (wpAny_mono (h.go s hs) (fun f s' q=> ?_) fun _ _ x=>x)
 obtain⟨⟨v,rfl,hr⟩,k⟩:=q
 exact⟨⟨v,rfl,hr⟩,k⟩
theorem blk_cont{st:Stmt}{rest:List Stmt}{ρ:List (Str×PV)}(h:ZY c st (.cont ρ)):XU c (st::rest) (.cont ρ):=.mk fun s hs=>by
 refine wpAny_execs_cons (wpAny_mono (h.go s hs) (fun f s' q=> ?_) fun _ _ x=>x)
 obtain⟨⟨rfl,hr⟩,k⟩:=q
 exact⟨⟨rfl,hr⟩,k⟩
theorem Ym{st:Stmt}{ρ:List (Str×PV)}{o:Out}(h:ZY (c.wr ρ) st o):XU (c.wr ρ) [st] o:=by
 cases o with
 |next ρ=>exact Yj h YT
 |ret r=>exact Yg h
 |cont ρ=>exact blk_cont h
 |brk ρ=>exact .mk fun s hs=>wpAny_execs_cons (wpAny_mono (h.go s hs) (fun f s' q=>by
   obtain⟨⟨rfl,hr⟩,k⟩:=q
   exact⟨⟨rfl,hr⟩,k⟩) fun _ _ x=>x)
theorem Xh{e:PySem.Expr}{pos:Pos}{r:PV}(h:EvOk c e r):ZY c (.Return (some e) pos) (.ret r):=.mk fun s hs=>by
 rw[exec_Return_some]
 exact wpAny_bind (wpAny_standAt (wpAny_bind (Xi h hs fun v s' q k _=>wpAny_pure ⟨⟨v,rfl,q⟩,.of k⟩)))
noncomputable def Storable(c:Cx)(x:Str):Prop:=c.env.kindOf x=some .local∨(c.env.kindOf x=some .cell∧(c.env.cells.lookup x).isSome=true)
theorem Jt{x:Str}{pos' pos:Pos}{e:PySem.Expr}{p:PV}{ρ:List (Str×PV)}(h:EvOk (c.wr ρ) e p)(hk:Storable (c.wr ρ) x)(hs:swapsWith e (some (.Name x pos')) pos.line (c.wr ρ).env=pure false):
 ZY (c.wr ρ) (.Assign [.Name x pos'] e pos) (.next ((x,p)::ρ)):=.mk fun s st=>by
 rw[exec_Assign_Name _ _ _ _ _ hs]
 refine wpAny_bind (wpAny_standAt (wpAny_bind (Xi h st fun v s₁ r₁ k₁ st₁=> ?_)))
 refine wpAny_bind (wpAny_standAt (wpAny_bind (wpAny_bindName (Zj st₁ r₁ hk fun s₂ st₂ k₂=> ?_))))
 exact wpAny_pure ⟨⟨rfl,st₂⟩,(KpF.of k₁).trans k₂⟩
structure XE(c:Cx)(e:PySem.Expr)(b:Bool):Prop where
 go:∀s,c.St s→wpAny (model pw c.w) c.A (isTrue e c.env (eval e c.env)) (fun x s'=>x=b∧Kp c.lam s s') (fun _ _=>False) s
theorem Zb{t:PySem.Expr}{b1 b2:List Stmt}{pos:Pos}{b:Bool}{o:Out}(ht:XE c t b)(h:XU c (if b then b1 else b2) o):ZY c (.If t b1 b2 pos) o:=.mk fun s hs=>by
 rw[exec_If]
 refine wpAny_bind (wpAny_standAt (wpAny_bind (wpAny_mono (ht.go s hs) (fun x s₁ q=> ?_) fun _ _ x=>x)))
 obtain⟨rfl,k⟩:=q
 cases x
 ·exact wpAny_mono (h.go s₁ (hs.kp k)) (fun f s' q=>⟨q.1,(KpF.of k).trans q.2⟩) fun _ _ x=>x
 ·exact wpAny_mono (h.go s₁ (hs.kp k)) (fun f s' q=>⟨q.1,(KpF.of k).trans q.2⟩) fun _ _ x=>x
end
noncomputable def FnOk(w:World)(g:Nat→Obj)(l:Bool)(n:Nat)(f:Value)(ps:List PV)(r:PV):Prop:=∀A:Around,A.handled=none→A.depth+n<recursionLimit→∀V s vs,Base w g s→Yd V s.heap→Xb V s.heap ps vs→
 wpAny (model pw w) A (PySem.call f vs) (fun x s'=>Rep V s'.heap r x∧Kp l s s') (fun _ _=>False) s
theorem Xl{V:List Addr}{h:Heap}{p:PV}{ps:List PV}{v:Value}{vs:List Value}(h1:Rep V h p v)(h2:Xb V h ps vs):Xb V h (p::ps) (v::vs):=by
 rw[Xb];exact⟨v,vs,rfl,h1,h2⟩
theorem XW{V:List Addr}{h:Heap}:Xb V h [] []:=by rw[Xb]
theorem Xy{V:List Addr}{h:Heap}{v:Value}:Rep V h (.val v) v:=by rw[Rep]
theorem JL{V:List Addr}{h:Heap}:Rep V h .none .none:=by rw[Rep]
theorem YG{V:List Addr}{h:Heap}{i:Int}{t:Tok}:Rep V h (.int i) (.int i t):=by rw[Rep];exact⟨t,rfl⟩
theorem XN{V:List Addr}{h:Heap}{x:Str}{q:PV}:∀{ns:List Str} {ps:List PV} {vs:List Value},Xb V h ps vs→∀{acc:List (Str×PV)} {acc':List (Str×Value)},
 (∀y q,acc.lookup y=some q→∃v,acc'.lookup y=some v∧Rep V h q v)→∀y q,((ns.zip ps).reverseAux acc).lookup y=some q→∃v,((ns.zip vs).reverseAux acc').lookup y=some v∧Rep V h q v
 | [],_,_,_,acc,acc',ha,y,q,hq=>ha y q hq
 |n::ns,[],vs,r,acc,acc',ha,y,q,hq=>by
  rw[Xb]at r;subst r
  exact ha y q hq
 |n::ns,p::ps,vs,r,acc,acc',ha,y,q,hq=>by
  rw[Xb]at r
  obtain⟨v,vs',rfl,h1,h2⟩:=r
  refine XN (x:=x) (q:=q) h2 (acc:=(n,p)::acc) (acc':=(n,v)::acc') (fun z t hz=> ?_) y q hq
  rw[List.lookup_cons]at hz ⊢
  cases hzn:z==n with
  |true=>rw[hzn]at hz;cases hz;exact⟨v,rfl,h1⟩
  |false=>rw[hzn]at hz;exact ha z t hz
theorem Xs(w:World)(g:Nat→Obj):(S35 w g).heap.Ns mainGlobals ((S35 w g).heap.nsMap mainGlobals)∧(S35 w g).heap.Ns builtinsNs ((S35 w g).heap.nsMap builtinsNs):=
 ⟨.of_isNs (by kernel_rfl),.of_isNs (by kernel_rfl)⟩
theorem nolimit(w:World)(g:Nat→Obj):(S35 w g).heap.NoLimit:=⟨_,.of_isNs (by kernel_rfl),by kernel_rfl⟩
theorem Base.nolimit{w:World}{g:Nat→Obj}{s:Shared}(B:Base w g s):s.heap.NoLimit:=(Mine.nolimit w g).at fun o e=>B.1 _ _ rfl e
theorem YY{l:Bool}{w:World}{g:Nat→Obj}{n:Nat}{name:Str}{params:Arguments}{body:List Stmt}{scope:Scope}{pm doc:Value}{a c':Addr}{o oc:Obj}{cvs:Array Value}{ct:Tok}{ns:List Str}{ps:List PV}{r:PV}
(ho:(S35 w g).heap.get? a=some o)(ha:Xp a=false)(hd:o.data= .func (docDef name params body scope pm (.ref c') doc))
(hoc:(S35 w g).heap.get? c'=some oc)(hc':Xp c'=false)(hdc:oc.data= .fields cvs)(hcn:cvs[1]? =some (.str name ct))
(hbind:∀vs:List Value,vs.length=ps.length→bindArgs (docDef name params body scope pm (.ref c') doc) ⟨vs,[]⟩=pure (ns.zip vs))
(hloc:(ns.all fun x=>decide (scope.names.lookup x=some .local))=true)
(hco:scope.isCoroutine=false)(hgen:scope.isGenerator=false)(hk:scope.kind= .function)(hcell:(scope.names.all fun x=>x.2 != .cell)=true)
(h:∀(V:List Addr) (A:Around) (L:Addr) (hh:(A.deeper (envOf name scope L a (.ref c'))).handled=none),439≤L→A.depth+(n+1)<recursionLimit→
   XU (Cx.wr {w:=w,g:=g,A:=A.deeper (envOf name scope L a (.ref c')),env:=envOf name scope L a (.ref c'),ρ:=[],lam:=l,V:=V,X:=fun _=>True,hX:=fun _ _ _ _=>trivial,hh:=hh,kind:=hk,globs:=rfl,blts:=rfl,ground:=Xs w g} (ns.zip ps).reverse) body (.ret r)):
 FnOk w g l (n+1) (.ref a) ps r:=fun A hh hdep V s vs B hV hr=>by
 refine wpAny_call (call_plain_ret (o:=o) (name:=name) (params:=params) (body:=body) (scope:=scope) (pm:=pm) (cd:=.ref c') (doc:=doc) (binds:=ns.zip vs) (by lia) (B.1 _ _ ha ho) hd B.nolimit
  ⟨c',oc,cvs,ct,rfl,B.1 _ _ hc' hoc,hdc,hcn⟩ (hbind vs hr.length) (fun x hx=> ?_) (fun h₁ F=> ?_) hco hgen hk (fun x hx=> ?_))
 ·have:x.1∈ns:=(List.of_mem_zip (a:=x.1) (b:=x.2) hx).1
  exact of_decide_eq_true (List.all_eq_true.mp hloc _ this)
 ·have hL:=B.size
  have k:Kp l s {s with heap:=h₁,toks:=s.toks+(ns.zip vs).length}:=⟨h₁,_,rfl,fun b o _ e=>F.keep b o e⟩
  have hs:=(h V A s.heap.objs.size hh hL hdep).go {s with heap:=h₁,toks:=s.toks+(ns.zip vs).length} ⟨B.kp k,⟨⟨_,F.ns,fun x pv hx hkx=> ?_⟩,fun x pv hx hkx=> ?_,hL,fun x c hx=> ?_,hV.kp k,fun x y c hx=> ?_⟩,trivial⟩
  ·refine wpAny_mono hs (fun f s' q=> ?_) fun _ _ x=>x
   obtain⟨⟨v,rfl,hv⟩,k'⟩:=q
   refine⟨hv,?_⟩
   obtain⟨h',t',rfl,kk⟩:=k'
   exact⟨h',t',rfl,fun b o n e=>kk b o n (fun m=>by
    have hb:=Heap.lt_size e
    have:b=s.heap.objs.size:=by simpa [Cx.fr,Cx.wr,envOf]using m
    exact absurd this (Nat.ne_of_lt hb)) (F.keep b o e)⟩
  ·exact XN (x:=x) (q:=pv) (hr.kp k) (acc:=[]) (acc':=[]) (fun y q hq=>by simp at hq) x pv hx
  ·exfalso
   have h1:x∈ns:=by
    have hx':(ns.zip ps).reverse.lookup x=some pv:=hx
    have:=mem_of_lookup hx'
    rw[List.mem_reverse]at this
    exact(List.of_mem_zip this).1
   have h2:scope.names.lookup x=some .local:=of_decide_eq_true (List.all_eq_true.mp hloc _ h1)
   have h3:(envOf name scope s.heap.objs.size a (.ref c')).kindOf x=some .local:=h2
   rcases hkx with e |e<;>(have e':(envOf name scope s.heap.objs.size a (.ref c')).kindOf x=_:=e;rw[h3]at e';cases e')
  ·have:([]:List (Str×Addr)).lookup x=some c:=hx
   simp at this
  ·have:([]:List (Str×Addr)).lookup x=some c:=hx
   simp at this
 ·have:=List.all_eq_true.mp hcell x hx
  simpa using this
section
variable{c:Cx}
noncomputable def Zi(c:Cx)(op:CmpOp)(p q:PV)(b:Bool):Prop:=∀s v u,c.St s→Rep c.V s.heap p v→Rep c.V s.heap q u→wpAny (model pw c.w) c.A (compareOp op v u) (fun x s'=>x= .bool b∧Kp c.lam s s') (fun _ _=>False) s
theorem ZW{l r:PySem.Expr}{op:CmpOp}{pos:Pos}{p q:PV}{b:Bool}(hl:EvOk c l p)(hr:EvOk c r q)(hc:Zi c op p q b)(hm:behindInMarks op r=false):EvOk c (.Compare l [op] [r] pos) (.bool b):=.mk fun s hs=>by
 rw[eval_Compare1,markedBehindIn_of_false hm]
 refine wpAny_bind (Xi hl hs fun v s₁ r₁ k₁ st₁=> ?_)
 refine wpAny_bind (wpAny_holding (Xi hr st₁ fun u s₂ r₂ k₂ st₂=> ?_))
 refine wpAny_bind (wpAny_standAt (wpAny_operate' ?_))
 exact wpAny_mono (hc s₂ v u st₂ (r₁.kp k₂) r₂) (fun x s' q=>⟨by rw[Rep];exact q.1,(k₁.trans k₂).trans q.2⟩) (fun _ _ x=>x)
theorem Xj{l r:PySem.Expr}{op:CmpOp}{pos:Pos}{p q:PV}{b:Bool}(hl:EvOk c l p)(hr:EvOk c r q)(hc:Zi c op p q b)(hm:behindInMarks op r=false):XE c (.Compare l [op] [r] pos) b:=.mk fun s hs=>by
 rw[isTrue_Compare1,markedBehindIn_of_false hm]
 refine wpAny_bind (Xi hl hs fun v s₁ r₁ k₁ st₁=> ?_)
 refine wpAny_bind (wpAny_holding (Xi hr st₁ fun u s₂ r₂ k₂ st₂=> ?_))
 refine wpAny_bind (wpAny_standAt (wpAny_bind (wpAny_operate' ?_)))
 refine wpAny_mono (hc s₂ v u st₂ (r₁.kp k₂) r₂) (fun x s' q=> ?_) (fun _ _ x=>x)
 obtain⟨rfl,k⟩:=q
 exact wpAny_holding (wpAny_pure ⟨rfl,(k₁.trans k₂).trans k⟩)
noncomputable def UJ(c:Cx)(p:PV)(b:Bool):Prop:=∀s v,c.St s→Rep c.V s.heap p v→wpAny (model pw c.w) c.A (truthy v) (fun x s'=>x=b∧Kp c.lam s s') (fun _ _=>False) s
theorem YL{b:Bool}:UJ c (.bool b) b:=fun s v hs hr=>by
 rw[Rep]at hr;subst hr
 exact wpAny_pure ⟨rfl,.refl s⟩
theorem Yr{e:PySem.Expr}{p:PV}{b:Bool}(h:EvOk c e p)(ht:UJ c p b)(he:isTrue e c.env (eval e c.env)=(do let v ←eval e c.env;standAt e.pos;holding [v] (truthy v))):XE c e b:=.mk fun s hs=>by
 refine isTrue_plain (Xi h hs fun v s₁ r₁ k₁ st₁=> ?_) he
 exact wpAny_mono (ht s₁ v st₁ r₁) (fun x s' q=>⟨q.1,k₁.trans q.2⟩) fun _ _ x=>x
theorem test_not{e:PySem.Expr}{pos:Pos}{b:Bool}(h:XE c e b):XE c (.UnaryOp .Not e pos) (!b):=.mk fun s hs=>
 isTrue_not (wpAny_mono (h.go s hs) (fun x s' q=>⟨by rw[q.1],q.2⟩) fun _ _ x=>x)
theorem test_and_nil{pos:Pos}:XE c (.BoolOp .And [] pos) true:=.mk fun s hs=>isTrue_and_nil ⟨rfl,.refl s⟩
theorem JH{pos:Pos}:XE c (.BoolOp .Or [] pos) false:=.mk fun s hs=>isTrue_or_nil ⟨rfl,.refl s⟩
theorem test_and{x:PySem.Expr}{rest:List PySem.Expr}{pos:Pos}{a b:Bool}(hx:XE c x a)(hr:a=true→XE c (.BoolOp .And rest pos) b):XE c (.BoolOp .And (x::rest) pos) (a&&b):=.mk fun s hs=>by
 refine isTrue_and (wpAny_mono (hx.go s hs) (fun y s' q=> ?_) fun _ _ x=>x)
 obtain⟨rfl,k⟩:=q
 cases y with
 |false=>exact⟨rfl,k⟩
 |true=>exact wpAny_mono ((hr rfl).go s' (hs.kp k)) (fun z s'' q'=>⟨by rw[q'.1];rfl,k.trans q'.2⟩) fun _ _ x=>x
theorem Kf{x:PySem.Expr}{rest:List PySem.Expr}{pos:Pos}{a b:Bool}(hx:XE c x a)(hr:a=false→XE c (.BoolOp .Or rest pos) b):XE c (.BoolOp .Or (x::rest) pos) (a||b):=.mk fun s hs=>by
 refine isTrue_or (wpAny_mono (hx.go s hs) (fun y s' q=> ?_) fun _ _ x=>x)
 obtain⟨rfl,k⟩:=q
 cases y with
 |true=>exact⟨rfl,k⟩
 |false=>exact wpAny_mono ((hr rfl).go s' (hs.kp k)) (fun z s'' q'=>⟨by rw[q'.1];rfl,k.trans q'.2⟩) fun _ _ x=>x
theorem Jp{t a b:PySem.Expr}{pos:Pos}{x:Bool}{p:PV}(ht:XE c t x)(h:EvOk c (if x then a else b) p):EvOk c (.IfExp t a b pos) p:=.mk fun s hs=>by
 refine wpAny_IfExp (wpAny_mono (ht.go s hs) (fun y s' q=> ?_) fun _ _ x=>x)
 obtain⟨rfl,k⟩:=q
 cases y<;>exact Xi h (hs.kp k) fun v s'' r k' _=>⟨r,k.trans k'⟩
end
section
variable{c:Cx}
theorem Jh{a b:Int}:KX c .Add (.int a) (.int b) (.int (a+b)):=fun s v u hs h1 h2=>by
 rw[Rep]at h1 h2
 obtain⟨t,rfl⟩:=h1
 obtain⟨t',rfl⟩:=h2
 exact wpAny_add_int ⟨by rw[Rep];exact⟨_,rfl⟩,.tok _⟩
theorem Zx{a b:Int}:Zi c .Lt (.int a) (.int b) (decide (a<b)):=fun s v u hs h1 h2=>by
 rw[Rep]at h1 h2
 obtain⟨t,rfl⟩:=h1
 obtain⟨t',rfl⟩:=h2
 exact wpAny_lt_int ⟨rfl,.refl s⟩
theorem ZH{n:Nat}:ZZ c (.builtin "ord") [.str ⟨#[n]⟩] (.int n):=fun s vs hs h=>by
 rw[Xb]at h
 obtain⟨v,r,rfl,h1,h2⟩:=h
 rw[Xb]at h2;subst h2
 rw[Rep]at h1
 obtain⟨t,rfl⟩:=h1
 exact PySem.P.ord_of_char ⟨by rw[Rep];exact⟨_,rfl⟩,.tok _⟩
theorem made_int{i:Int}{s:Shared}{Q:Value→Shared→Prop}(h:Q (.int i s.toks) {s with toks:=s.toks+1}):(Made.int i).post Q s:=h
theorem bin_mod_int{a b:Int}(h:¬(b==0)=true):KX c .Mod (.int a) (.int b) (.int (a.fmod b)):=fun s v u hs h1 h2=>by
 rw[Rep]at h1 h2
 obtain⟨t,rfl⟩:=h1
 obtain⟨t',rfl⟩:=h2
 exact AutoIntOps.mod_1 h (made_int ⟨by rw[Rep];exact⟨_,rfl⟩,.tok _⟩)
theorem bin_fdiv_int{a b:Int}(h:¬(b==0)=true)(hp:¬(Builtin.divisionGoesByPylong a b)=true):KX c .FloorDiv (.int a) (.int b) (.int (a.fdiv b)):=fun s v u hs h1 h2=>by
 rw[Rep]at h1 h2
 obtain⟨t,rfl⟩:=h1
 obtain⟨t',rfl⟩:=h2
 exact AutoIntOps.floordiv_1 h hp (made_int ⟨by rw[Rep];exact⟨_,rfl⟩,.tok _⟩)
theorem bin_and_int{a b:Int}:KX c .BitAnd (.int a) (.int b) (.int (Builtin.bitAnd a b)):=fun s v u hs h1 h2=>by
 rw[Rep]at h1 h2
 obtain⟨t,rfl⟩:=h1
 obtain⟨t',rfl⟩:=h2
 exact PyProof.Rows.and_int ⟨by rw[Rep];exact⟨_,rfl⟩,.tok _⟩
noncomputable def Kz:PV→Bool
 | .val (.ref _)=>true
 | .val _=>false
 |_=>true
noncomputable def UV:PV→Bool
 | .none=>true
 |_=>false
theorem plain_none{V:List Addr}{h:Heap}{p:PV}{v:Value}(hp:Kz p=true)(r:Rep V h p v):plainIs v .none=true∧(v==.none)=UV p:=by
 cases p<;>rw[Rep]at r
 case none=>subst r;exact⟨rfl,rfl⟩
 case bool=>subst r;exact⟨rfl,rfl⟩
 case int=>obtain⟨t,rfl⟩:=r;exact⟨rfl,rfl⟩
 case str=>obtain⟨t,rfl⟩:=r;exact⟨rfl,rfl⟩
 case tup=>obtain⟨a,vs,rfl,_⟩:=r;exact⟨rfl,rfl⟩
 case lst=>obtain⟨a,vs,rfl,_⟩:=r;exact⟨rfl,rfl⟩
 case val u=>subst r;cases v<;>first | (cases hp;done) |exact⟨rfl,rfl⟩
theorem JW{p:PV}(hp:Kz p=true):Zi c .Is p .none (UV p):=fun s v u hs h1 h2=>by
 rw[Rep]at h2
 subst h2
 obtain⟨h3,h4⟩:=plain_none hp h1
 exact wpAny_is_plain h3 ⟨by rw[h4],.refl s⟩
theorem YQ{p:PV}(hp:Kz p=true):Zi c .IsNot p .none (!UV p):=fun s v u hs h1 h2=>by
 rw[Rep]at h2
 subst h2
 obtain⟨h3,h4⟩:=plain_none hp h1
 exact wpAny_isNot_plain h3 ⟨by rw[h4],.refl s⟩
theorem bin_add_str{x y:Str}(h:x.length+y.length≤sizeLine):KX c .Add (.str x) (.str y) (.str (x++y)):=fun s v u hs h1 h2=>by
 rw[Rep]at h1 h2
 obtain⟨t,rfl⟩:=h1
 obtain⟨t',rfl⟩:=h2
 exact PySem.SB.add (fun t' k=>⟨by rw[Rep];exact⟨_,rfl⟩,.tok _⟩) h
theorem cmp_in_str{x y:Str}:Zi c .In (.str y) (.str x) (Txt.contains x y):=fun s v u hs h1 h2=>by
 rw[Rep]at h1 h2
 obtain⟨t,rfl⟩:=h1
 obtain⟨t',rfl⟩:=h2
 exact PySem.SB.contains ⟨rfl,.refl s⟩
end
section
variable{c:Cx}
theorem tail_item{prog:Program}{w:World}{A:Around}{E:Value→Shared→Prop}{s:Shared}{value slice:PySem.Expr}{o i:Value}{ops:List Value}{Q:Value→Shared→Prop}(h:ItemOn (model prog w) A E o i Q s)
(hs:subscripted slice false o i=operate ops (getItem o i)):wpAny (model prog w) A (subscriptTail value slice o i) Q E s:=by
 obtain⟨T,id,hl,hT,hg⟩:=h
 unfold subscriptTail
 refine wpAny_bind ?_
 rw[getitemInPython_of_ne hT.not_modules]
 refine wpAny_bind (wpAny_specialOf hT hl ?_)
 have fin:wpAny (model prog w) A (subscripted slice false o i) (fun r s₃=>wpAny (model prog w) A (letTemporaryGo value o r >>= fun _=>pure r) Q E s₃) E s:=by
  rw[hs]
  exact wpAny_operating (wpAny_mono hg (fun r s₃ h₃=>wpAny_bind (wpAny_letTemporaryGo (wpAny_pure h₃))) fun _ _ x=>x)
 first
  |exact wpAny_pure (wpAny_bind fin)
  |exact wpAny_bind (wpAny_pure (wpAny_bind fin))
  |exact wpAny_bind fin
noncomputable def KG(c:Cx)(p q r:PV):Prop:=∀s v u,c.St s→Rep c.V s.heap p v→Rep c.V s.heap q u→ItemOn (model pw c.w) c.A (fun _ _=>False) v u (fun x s'=>Rep c.V s'.heap r x∧Kp c.lam s s') s
noncomputable def plainIndex(e:PySem.Expr):Bool:=e.ctorIdx !=26
theorem sub_plain{e:PySem.Expr}(h:plainIndex e=true)(o i:Value):subscripted e false o i=operate [o,i] (getItem o i):=by
 cases e<;>first |rfl |cases h
theorem XY{a i:PySem.Expr}{pos:Pos}{p q r:PV}(ha:EvOk c a p)(hi:EvOk c i q)(hk:KG c p q r)(hp:plainIndex i=true):EvOk c (.Subscript a i pos) r:=.mk fun s hs=>by
 rw[arm_eval_Subscript]
 refine wpAny_bind (Xi ha hs fun v s₁ r₁ k₁ st₁=> ?_)
 refine wpAny_bind (wpAny_holding (Xi hi st₁ fun u s₂ r₂ k₂ st₂=> ?_))
 refine wpAny_bind (wpAny_standAt ?_)
 show wpAny _ _ (subscriptTail a i v u) _ _ s₂
 obtain⟨T,id,hl,hT,hg⟩:=hk s₂ v u st₂ (r₁.kp k₂) r₂
 exact tail_item ⟨T,id,hl,hT,wpAny_mono hg (fun x s' q=>⟨q.1,(k₁.trans k₂).trans q.2⟩) fun _ _ x=>x⟩ (sub_plain hp _ _)
theorem item_of_str{x:Str}{i:Int}(hr:fitsSsize i=true)(hin:(Txt.charAt x i).isSome=true):KG c (.str x) (.int i) (.str (Txt.item x i)):=fun s v u hs h1 h2=>by
 rw[Rep]at h1
 rw[Rep]at h2
 obtain⟨t,rfl⟩:=h1
 obtain⟨t',rfl⟩:=h2
 exact SB.item hr hin ⟨by rw[Rep];exact⟨_,rfl⟩,.tok _⟩
theorem Xb.at{V:List Addr}{h:Heap}:∀{ps:List PV} {vs:List Value} {i:Nat} {p:PV},Xb V h ps vs→ps[i]? =some p→∃v,vs[i]? =some v∧Rep V h p v
 | [],_,_,_,_,h=>by simp at h
 |q::ps,vs,i,p,r,h=>by
  rw[Xb]at r
  obtain⟨v,w,rfl,h1,h2⟩:=r
  cases i with
  |zero=>simp at h;subst h;exact⟨v,rfl,h1⟩
  |succ i=>simpa using Xb.at h2 (by simpa using h)
theorem item_of_lst{l:List PV}{k:Int}{p:PV}(h0:0≤k)(hfit:k<2 ^ 63)(hp:l[k.toNat]? =some p):KG c (.lst l) (.int k) p:=fun s v u hs h1 h2=>by
 rw[Rep]at h1
 rw[Rep]at h2
 obtain⟨a,vs,rfl,_,hl,hr⟩:=h1
 obtain⟨t,rfl⟩:=h2
 obtain⟨x,hx,hxr⟩:=hr.at hp
 exact⟨"list",_,slot_list_getitem.lookup,hl.isList.typeIs,wpAny_getItem_list hl.isList h0 hfit (by rw[←Array.getElem?_toList];exact hx) ⟨hxr,.refl s⟩⟩
theorem XX{l:List PV}{k:Int}{p:PV}(h0:0≤k)(hfit:k<2 ^ 63)(hp:l[k.toNat]? =some p):KG c (.tup l) (.int k) p:=fun s v u hs h1 h2=>by
 rw[Rep]at h1
 rw[Rep]at h2
 obtain⟨a,vs,rfl,_,⟨n,hl⟩,hr⟩:=h1
 obtain⟨t,rfl⟩:=h2
 obtain⟨x,hx,hxr⟩:=hr.at hp
 have ht:IsTup s.heap a vs:=⟨_,hl,rfl,n,rfl⟩
 have hlt:k<(vs.size:Int):=by
  have:k.toNat<vs.toList.length:=by
   rcases Nat.lt_or_ge k.toNat vs.toList.length with q |q
   ·exact q
   ·rw[List.getElem?_eq_none q]at hx;cases hx
  rw[Array.length_toList]at this
  lia
 exact⟨"tuple",_,slot_tuple_getitem.lookup,ht.typeIs,getItem_tuple ht (by lia) hfit (seqIndex_of h0 hlt) (by rw[←Array.getElem?_toList];exact hx) ⟨hxr,.refl s⟩⟩
end
section
variable{c:Cx}
theorem KQ{o:PySem.Expr}{apos pos:Pos}{x:Str}(h:EvOk c o (.str x))(hb:attributeBase o "lower" c.env (eval o c.env)=eval o c.env)(hl:(apos.endLine==pos.line)=true)(hfit:Builtin.Str.tooLong (Txt.lower x).length=false):
 EvOk c (.Call (.Attribute o "lower" apos) [] [] pos) (.str (Txt.lower x)):=.mk fun s hs=>by
 refine Call_method0 hb hl (Xi h hs fun v s₁ r₁ k₁ st₁=> ?_)
 rw[Rep]at r₁
 obtain⟨t,rfl⟩:=r₁
 exact SB.lower hfit ⟨by rw[Rep];exact⟨_,rfl⟩,k₁.trans (.tok _)⟩
theorem ev_upper{o:PySem.Expr}{apos pos:Pos}{x:Str}(h:EvOk c o (.str x))(hb:attributeBase o "upper" c.env (eval o c.env)=eval o c.env)(hl:(apos.endLine==pos.line)=true)(hfit:Builtin.Str.tooLong (Txt.upper x).length=false):
 EvOk c (.Call (.Attribute o "upper" apos) [] [] pos) (.str (Txt.upper x)):=.mk fun s hs=>by
 refine Call_method0 hb hl (Xi h hs fun v s₁ r₁ k₁ st₁=> ?_)
 rw[Rep]at r₁
 obtain⟨t,rfl⟩:=r₁
 exact SB.upper hfit ⟨by rw[Rep];exact⟨_,rfl⟩,k₁.trans (.tok _)⟩
theorem ev_startswith{o e:PySem.Expr}{apos pos:Pos}{x y:Str}(h:EvOk c o (.str x))(he:EvOk c e (.str y))(hb:attributeBase o "startswith" c.env (eval o c.env)=eval o c.env)(hst:XV e=false)(hl:(apos.endLine==pos.line)=true):
 EvOk c (.Call (.Attribute o "startswith" apos) [e] [] pos) (.bool (Txt.startswith x y)):=.mk fun s hs=>by
 refine Call_method1 hb (Zs hst) hl (Xi h hs fun v s₁ r₁ k₁ st₁=> ?_)
 rw[Rep]at r₁
 obtain⟨t,rfl⟩:=r₁
 refine SB.startswith (Xi he st₁ fun u s₂ r₂ k₂ st₂=> ?_)
 rw[Rep]at r₂
 obtain⟨t',rfl⟩:=r₂
 exact⟨y,t',rfl,by rw[Rep],k₁.trans k₂⟩
end
section
variable{c:Cx}
theorem JS{V:List Addr}{h:Heap}:∀{ns:List Int} {vs:List Value},Xb V h (ns.map .int) vs→IntsAre vs ns
 | [],vs,r=>by rw[List.map_nil,Xb]at r;subst r;exact .nil
 |n::ns,vs,r=>by
  rw[List.map_cons,Xb]at r
  obtain⟨v,w,rfl,h1,h2⟩:=r
  rw[Rep]at h1
  obtain⟨t,rfl⟩:=h1
  exact .cons _ _ (JS h2)
theorem Za{ns:List Int}{k:Int}:Zi c .In (.int k) (.lst (ns.map .int)) (ns.any (· ==k)):=fun s v u hs h1 h2=>by
 rw[Rep]at h1
 rw[Rep]at h2
 obtain⟨t,rfl⟩:=h1
 obtain⟨a,vs,rfl,_,hl,hr⟩:=h2
 exact in_list_ints (vs:=vs.toList) (by simpa using hl.isList) (JS hr) ⟨rfl,.refl s⟩
theorem cmp_in_tup_ints{ns:List Int}{k:Int}:Zi c .In (.int k) (.tup (ns.map .int)) (ns.any (· ==k)):=fun s v u hs h1 h2=>by
 rw[Rep]at h1
 rw[Rep]at h2
 obtain⟨t,rfl⟩:=h1
 obtain⟨a,vs,rfl,_,⟨n,hl⟩,hr⟩:=h2
 exact in_tuple_ints (items:=vs) ⟨_,hl,rfl,n,rfl⟩ (JS hr) ⟨rfl,.refl s⟩
end
local macro_rules | `(tactic|walk_at "Ev")=> `(tactic|first
 |exact Xe
 |exact XK
 |exact YI
 |exact JB
 |exact Xa rfl rfl rfl rfl
 |exact Xm rfl (by kernel_rfl) (by kernel_rfl) rfl
 |exact XA rfl (by kernel_rfl) rfl
 |exact Xd
 | (refine Xc ?_ ?_ rfl<;>walk_at "Ev")
 | (refine XI ?_ ?_ ?_<;>walk_at "Ev")
 | (refine ZW ?_ ?_ ?_ rfl<;>walk_at "Ev")
 | (refine Yp ?_ (by decide)<;>walk_at "Ev")
 |skip)
theorem Xk{c:Cx}{e:PySem.Expr}{b b':Bool}(h:XE c e b)(hb:b=b'):XE c e b':=hb▸h
theorem fn_c4(w:World)(g:Nat→Obj)(n:Nat):FnOk w g false 1 (.ref 109) [.str ⟨#[n]⟩] (.bool (if(n:Int)<64976 then false else if(n:Int)<65008 then true else[65534,65535].any (· ==Builtin.bitAnd (n:Int) 65535))):=by
 refine YY (n:=0) (name:="in_table_c4") (params:=fdA (stN 7)) (body:=fdB (stN 7)) (scope:=fdS (stN 7)) (pm:=.str (S "cpy313.stringprep") 289) (doc:=.none) (a:=109) (c':=108) (ns:=["code"]) (o:=o109 w.params) (oc:=o108 w.params) (cvs:=(match(o108 w.params).data with | .fields v=>v |_=>#[])) (ct:=2318) (by kernel_rfl) rfl (by kernel_rfl) (by kernel_rfl) rfl (by kernel_rfl) (by kernel_rfl) ?_ (by kernel_rfl) (by kernel_rfl) (by kernel_rfl) (by kernel_rfl) (by kernel_rfl) ?_
 ·intro vs hv
  obtain⟨v,rfl⟩:=len1 hv
  kernel_rfl
 ·intro V A L hh hL hd
  conv=>arg 2;whnf
  refine Yj (Jt (p:=.int n) ?_ (.inl rfl) rfl) ?_
  ·refine XQ (fv:=.builtin "ord") ?_ (ps:=[.str ⟨#[n]⟩]) ?_ rfl (.inl ⟨_,rfl⟩) ZH<;>walk_at "Ev"
  ·by_cases h1:(n:Int)<64976
   ·rw[if_pos h1]
    exact Yg (Zb (b:=true) (Xk (Xj (Xa (pv:=.int n) rfl rfl rfl rfl) Xe Zx rfl) (decide_eq_true h1)) (Ym (Xh JB)))
   ·rw[if_neg h1]
    refine Yj (Zb (b:=false) (Xk (Xj (Xa (pv:=.int n) rfl rfl rfl rfl) Xe Zx rfl) (decide_eq_false h1)) YT) ?_
    by_cases h2:(n:Int)<65008
    ·rw[if_pos h2]
     exact Yg (Zb (b:=true) (Xk (Xj (Xa (pv:=.int n) rfl rfl rfl rfl) Xe Zx rfl) (decide_eq_true h2)) (Ym (Xh JB)))
    ·rw[if_neg h2]
     refine Yj (Zb (b:=false) (Xk (Xj (Xa (pv:=.int n) rfl rfl rfl rfl) Xe Zx rfl) (decide_eq_false h2)) YT) (Yg (Xh ?_))
     refine ZW (p:=.int (Builtin.bitAnd n 65535)) (q:=.tup ([65534,65535].map .int)) (XI (p:=.int n) (q:=.int 65535) ?_ Xe bin_and_int) (Yp (Xc Xe (Xc Xe Xd rfl) rfl) (by decide)) cmp_in_tup_ints rfl
     refine XQ (fv:=.builtin "ord") ?_ (ps:=[.str ⟨#[n]⟩]) ?_ rfl (.inl ⟨_,rfl⟩) ZH<;>walk_at "Ev"
noncomputable def setE(ns:List Int)(es:List (Int×Value)):List (Int×Value):=List.zipWith (fun n e=>(hashInt n,.int n (tokV e.2))) ns es
theorem setE_elems{w:World}:∀(ns:List Int) (es:List (Int×Value)),ns.length=es.length→ElemsOf (intKind pw w) (setE ns es)∧∀k,(ns.any (· ==k))=true↔∃e∈setE ns es,(intKind pw w).is k e.2=true
 | [],[],_=>⟨fun e he=>(nomatch he),fun k=>⟨fun h=>absurd h Bool.false_ne_true,fun h=>h.elim fun _ h=>(nomatch h.1)⟩⟩
 | [],_::_,h=>nomatch h
 |_::_,[],h=>nomatch h
 |n::ns,e::es,h=>by
  have ih:=setE_elems (w:=w) ns es (Nat.succ.inj h)
  refine⟨fun x hx=> ?_,fun k=> ?_⟩
  ·rcases Xz.mp hx with rfl |hx
   ·exact⟨⟨n,beq_self_eq_true n,rfl⟩,rfl⟩
   ·exact ih.1 x hx
  ·rw[List.any_cons,Bool.or_eq_true,ih.2 k]
   constructor
   ·rintro(h | ⟨e,he,h⟩)
    ·exact⟨_,.head _,h⟩
    ·exact⟨e,.tail _ he,h⟩
   ·rintro⟨e,he,h⟩
    rcases Xz.mp he with rfl |he
    ·exact .inl h
    ·exact .inr ⟨e,he,h⟩
section
variable{c:Cx}
theorem cmp_in_set{a:Addr}{n:Int}{S:Int→Bool}(h:∀s,c.St s→∃m,s.heap.SetOf (intKind pw c.w) a S m):Zi c .In (.int n) (.val (.ref a)) (S n):=fun s v u hs h1 h2=>by
 rw[Rep]at h1
 rw[Rep]at h2
 subst h2
 obtain⟨t,rfl⟩:=h1
 exact wpAny_inSet_of (knd:=intKind pw c.w) (k:=n) (by show(n==n)=true;simp) rfl (h s hs).choose_spec ⟨rfl,.tok _⟩
theorem ZA{a:Addr}{n:Int}{o:Obj}{es:List (Int×Value)}{ep:Nat}{t:SetTable}{ns:List Int}(ho:(S35 c.w c.g).heap.get? a=some o)(ha:Xp a=false)(hx:o.cls= .type "set"∧o.dict=none∧o.slots=#[])(hd:o.data= .set es.toArray ep t)
(hok:(es,ns.length)=(setE ns es,es.length))(hsz:decide (es.length<scanBound)=true)(hf:t.fits es.length=true):Zi c .In (.int n) (.val (.ref a)) (ns.any (· ==n)):=
 cmp_in_set (S:=fun k=>ns.any (· ==k)) fun s hs=>by
  have E:=setE_elems (w:=c.w) ns es (congrArg (·.2) hok)
  have e1:es=setE ns es:=congrArg (·.1) hok
  rw[←e1]at E
  exact⟨es.length,o,es.toArray,ep,t,hs.1.1 a o ha ho,hx,hd,E.1,E.2,of_decide_eq_true hsz,hf,rfl⟩
end
noncomputable def esOf(o:Obj):List (Int×Value):=match o.data with | .set es _ _=>es.toList |_=>[]
local macro_rules | `(tactic|walk_at "Ev")=> `(tactic|first
 |exact Xe
 |exact XK
 |exact YI
 |exact JB
 |exact Xa rfl rfl rfl rfl
 |exact Xm (v:=.builtin _) rfl (by kernel_rfl) (by kernel_rfl) rfl
 |exact Xm (v:=.type _) rfl (by kernel_rfl) (by kernel_rfl) rfl
 |exact XA (v:=.ref _) rfl (by kernel_rfl) rfl
 |exact Xd
 | (refine Xc ?_ ?_ rfl<;>walk_at "Ev")
 | (refine XI ?_ ?_ ?_<;>walk_at "Ev")
 | (refine ZW ?_ ?_ ?_ rfl<;>walk_at "Ev")
 | (refine Yp ?_ (by decide)<;>walk_at "Ev")
 |skip)
noncomputable def Xn(o:Obj):Array Value:=match o.data with | .fields v=>v |_=>#[]
noncomputable def Wh(o:Obj):SetTable:=match o.data with | .set _ _ t=>t |_=>.fresh 0 0 false
theorem get_unk(w:World)(g:Nat→Obj)(i:Nat)(h:(g i).isFreed=false)(hi:(L_35 w.params g)[i]? =some (g i):=by kernel_rfl):(S35 w g).heap.get? i=some (g i):=Vy hi h
noncomputable def b1ns:List Int:=[65024,65025,65026,65027,65028,65029,6150,65030,65031,65032,65033,6155,6156,6157,8203,8204,8205,65034,65035,65036,65037,65038,65039,173,847,8288,65279]
theorem fn_b1(w:World)(g:Nat→Obj)(hg:Facts w g)(n:Nat):FnOk w g false 1 (.ref 56) [.str ⟨#[n]⟩] (.bool (b1ns.any (· ==(n:Int)))):=by
 refine YY (n:=0) (name:="in_table_b1") (params:=fdA (stN 4)) (body:=fdB (stN 4)) (scope:=fdS (stN 4)) (pm:=.str (S "cpy313.stringprep") 289) (doc:=.none) (a:=56) (c':=55) (ns:=["code"]) (o:=o56 w.params) (oc:=o55 w.params) (cvs:=Xn (o55 w.params)) (ct:=352) (by kernel_rfl) rfl (by kernel_rfl) (by kernel_rfl) rfl (by kernel_rfl) (by kernel_rfl) ?_ (by kernel_rfl) (by kernel_rfl) (by kernel_rfl) (by kernel_rfl) (by kernel_rfl) ?_
 ·intro vs hv
  obtain⟨v,rfl⟩:=len1 hv
  kernel_rfl
 ·intro V A L hh hL hd
  conv=>arg 2;whnf
  refine Ym (Xh (ZW (p:=.int n) (q:=.val (.ref 46)) (XQ (fv:=.builtin "ord") ?_ (ps:=[.str ⟨#[n]⟩]) ?_ rfl (.inl ⟨_,rfl⟩) ZH) ?_ ?_ rfl))
  ·walk_at "Ev"
  ·walk_at "Ev"
  ·walk_at "Ev"
  ·exact ZA (o:=o46 w.params) (es:=esOf (o46 w.params)) (ep:=29) (t:=Wh (o46 w.params)) (ns:=b1ns) (by kernel_rfl) rfl ⟨rfl,rfl,rfl⟩ (by kernel_rfl) (by kernel_rfl) (by kernel_rfl) (by kernel_rfl)
noncomputable def c6ns:List Int:=[65529,65530,65531,65532,65533]
theorem fn_c6(w:World)(g:Nat→Obj)(hg:Facts w g)(n:Nat):FnOk w g false 1 (.ref 121) [.str ⟨#[n]⟩] (.bool (c6ns.any (· ==(n:Int)))):=by
 refine YY (n:=0) (name:="in_table_c6") (params:=fdA (stN 9)) (body:=fdB (stN 9)) (scope:=fdS (stN 9)) (pm:=.str (S "cpy313.stringprep") 289) (doc:=.none) (a:=121) (c':=120) (ns:=["code"]) (o:=o121 w.params) (oc:=o120 w.params) (cvs:=Xn (o120 w.params)) (ct:=2340) (by kernel_rfl) rfl (by kernel_rfl) (by kernel_rfl) rfl (by kernel_rfl) (by kernel_rfl) ?_ (by kernel_rfl) (by kernel_rfl) (by kernel_rfl) (by kernel_rfl) (by kernel_rfl) ?_
 ·intro vs hv
  obtain⟨v,rfl⟩:=len1 hv
  kernel_rfl
 ·intro V A L hh hL hd
  conv=>arg 2;whnf
  refine Ym (Xh (ZW (p:=.int n) (q:=.val (.ref 111)) (XQ (fv:=.builtin "ord") ?_ (ps:=[.str ⟨#[n]⟩]) ?_ rfl (.inl ⟨_,rfl⟩) ZH) ?_ ?_ rfl))
  ·walk_at "Ev"
  ·walk_at "Ev"
  ·walk_at "Ev"
  ·exact ZA (o:=o111 w.params) (es:=esOf (o111 w.params)) (ep:=6) (t:=Wh (o111 w.params)) (ns:=c6ns) (by kernel_rfl) rfl ⟨rfl,rfl,rfl⟩ (by kernel_rfl) (by kernel_rfl) (by kernel_rfl) (by kernel_rfl)
noncomputable def c7ns:List Int:=[12272,12273,12274,12275,12276,12277,12278,12279,12280,12281,12282,12283]
theorem fn_c7(w:World)(g:Nat→Obj)(hg:Facts w g)(n:Nat):FnOk w g false 1 (.ref 133) [.str ⟨#[n]⟩] (.bool (c7ns.any (· ==(n:Int)))):=by
 refine YY (n:=0) (name:="in_table_c7") (params:=fdA (stN 11)) (body:=fdB (stN 11)) (scope:=fdS (stN 11)) (pm:=.str (S "cpy313.stringprep") 289) (doc:=.none) (a:=133) (c':=132) (ns:=["code"]) (o:=o133 w.params) (oc:=o132 w.params) (cvs:=Xn (o132 w.params)) (ct:=2375) (by kernel_rfl) rfl (by kernel_rfl) (by kernel_rfl) rfl (by kernel_rfl) (by kernel_rfl) ?_ (by kernel_rfl) (by kernel_rfl) (by kernel_rfl) (by kernel_rfl) (by kernel_rfl) ?_
 ·intro vs hv
  obtain⟨v,rfl⟩:=len1 hv
  kernel_rfl
 ·intro V A L hh hL hd
  conv=>arg 2;whnf
  refine Ym (Xh (ZW (p:=.int n) (q:=.val (.ref 123)) (XQ (fv:=.builtin "ord") ?_ (ps:=[.str ⟨#[n]⟩]) ?_ rfl (.inl ⟨_,rfl⟩) ZH) ?_ ?_ rfl))
  ·walk_at "Ev"
  ·walk_at "Ev"
  ·walk_at "Ev"
  ·exact ZA (o:=o123 w.params) (es:=esOf (o123 w.params)) (ep:=13) (t:=Wh (o123 w.params)) (ns:=c7ns) (by kernel_rfl) rfl ⟨rfl,rfl,rfl⟩ (by kernel_rfl) (by kernel_rfl) (by kernel_rfl) (by kernel_rfl)
noncomputable def c8ns:List Int:=[832,833,8234,8235,8236,8237,8206,8207,8238,8298,8299,8300,8301,8302,8303]
theorem fn_c8(w:World)(g:Nat→Obj)(hg:Facts w g)(n:Nat):FnOk w g false 1 (.ref 157) [.str ⟨#[n]⟩] (.bool (c8ns.any (· ==(n:Int)))):=by
 refine YY (n:=0) (name:="in_table_c8") (params:=fdA (stN 13)) (body:=fdB (stN 13)) (scope:=fdS (stN 13)) (pm:=.str (S "cpy313.stringprep") 289) (doc:=.none) (a:=157) (c':=156) (ns:=["code"]) (o:=o157 w.params) (oc:=o156 w.params) (cvs:=Xn (o156 w.params)) (ct:=2423) (by kernel_rfl) rfl (by kernel_rfl) (by kernel_rfl) rfl (by kernel_rfl) (by kernel_rfl) ?_ (by kernel_rfl) (by kernel_rfl) (by kernel_rfl) (by kernel_rfl) (by kernel_rfl) ?_
 ·intro vs hv
  obtain⟨v,rfl⟩:=len1 hv
  kernel_rfl
 ·intro V A L hh hL hd
  conv=>arg 2;whnf
  refine Ym (Xh (ZW (p:=.int n) (q:=.val (.ref 147)) (XQ (fv:=.builtin "ord") ?_ (ps:=[.str ⟨#[n]⟩]) ?_ rfl (.inl ⟨_,rfl⟩) ZH) ?_ ?_ rfl))
  ·walk_at "Ev"
  ·walk_at "Ev"
  ·walk_at "Ev"
  ·exact ZA (o:=o147 w.params) (es:=esOf (o147 w.params)) (ep:=16) (t:=Wh (o147 w.params)) (ns:=c8ns) (by kernel_rfl) rfl ⟨rfl,rfl,rfl⟩ (by kernel_rfl) (by kernel_rfl) (by kernel_rfl) (by kernel_rfl)
noncomputable def c9ns:List Int:=ns9
theorem fn_c9(w:World)(g:Nat→Obj)(hg:Facts w g)(n:Nat):FnOk w g false 1 (.ref 175) [.str ⟨#[n]⟩] (.bool (c9ns.any (· ==(n:Int)))):=by
 refine YY (n:=0) (name:="in_table_c9") (params:=fdA (stN 15)) (body:=fdB (stN 15)) (scope:=fdS (stN 15)) (pm:=.str (S "cpy313.stringprep") 289) (doc:=.none) (a:=175) (c':=174) (ns:=["code"]) (o:=o175 w.params) (oc:=o174 w.params) (cvs:=Xn (o174 w.params)) (ct:=2630) (by kernel_rfl) rfl (by kernel_rfl) (by kernel_rfl) rfl (by kernel_rfl) (by kernel_rfl) ?_ (by kernel_rfl) (by kernel_rfl) (by kernel_rfl) (by kernel_rfl) (by kernel_rfl) ?_
 ·intro vs hv
  obtain⟨v,rfl⟩:=len1 hv
  kernel_rfl
 ·intro V A L hh hL hd
  conv=>arg 2;whnf
  refine Ym (Xh (ZW (p:=.int n) (q:=.val (.ref 165)) (XQ (fv:=.builtin "ord") ?_ (ps:=[.str ⟨#[n]⟩]) ?_ rfl (.inl ⟨_,rfl⟩) ZH) ?_ ?_ rfl))
  ·walk_at "Ev"
  ·walk_at "Ev"
  ·walk_at "Ev"
  ·exact cmp_in_set (S:=fun k=>ns9.any (· ==k)) fun s hs=>hg.2.2 s.heap (hs.1.1 165 _ rfl (get_unk w g 165 hg.2.1))
noncomputable def We(c:Cx)(ps:List PV)(s:Shared)(it:Value)(s₂:Shared):Prop:=Kp c.lam s s₂∧∃I fp P St,it= .ref I∧s.heap.get? I=none∧439≤I∧Walks pw c.w c.A I fp [I] ps.length P St∧St 0 s₂.heap∧
 (∀b∈fp,b<s₂.heap.objs.size∧tb c.V b=false∧(b=I∨∃d x n,s₂.heap.get? b=some ⟨d,none,.seq x n,#[]⟩))∧(∀i v (s':Shared),P i v→(∀b o,b≠I→tb c.V b=false→s₂.heap.get? b=some o→s'.heap.get? b=some o)→∃p,ps[i]? =some p∧Rep c.V s'.heap p v)∧
 (∀i h,St i h→∀d x n,h.get? I≠some ⟨d,none,.seq x n,#[]⟩)∧(∀(elts:List PySem.Expr) k pos i v (s:Shared) (Q:Unit→Shared→Prop) E,St i s.heap→Q () s→wpAny (model pw c.w) c.A (letOwnedTupleGo (.Tuple elts k pos) (.ref I) v) Q E s)
noncomputable def Wd(c:Cx)(q:PV)(ps:List PV):Prop:=∀s v,c.St s→Rep c.V s.heap q v→wpAny (model pw c.w) c.A (pyIter v) (We c ps s) (fun _ _=>False) s
noncomputable def KV(c:Cx)(e:PySem.Expr)(ps:List PV):Prop:=∀s,c.St s→wpAny (model pw c.w) c.A (eval e c.env) (fun v s₁=>wpAny (model pw c.w) c.A (pyIter v) (We c ps s) (fun _ _=>False) s₁) (fun _ _=>False) s
theorem Yc(h:Heap):h.get? h.objs.size=none:=by
 cases e:h.get? h.objs.size with
 |none=>rfl
 |some o=>exact absurd (Heap.lt_size e) (Nat.lt_irrefl _)
noncomputable def UL(c:Cx)(ps:List PV)(s:Shared)(it:Value)(s₂:Shared):Prop:=Kp c.lam s s₂∧∃I fp P St,it= .ref I∧s.heap.get? I=none∧439≤I∧Walks pw c.w c.A I fp [I] ps.length P St∧St 0 s₂.heap∧
 (∀b∈fp,b<s₂.heap.objs.size∧tb c.V b=false∧(b=I∨∃d x n,s₂.heap.get? b=some ⟨d,none,.seq x n,#[]⟩))∧(∀i v (s':Shared),P i v→(∀b o,b≠I→tb c.V b=false→s₂.heap.get? b=some o→s'.heap.get? b=some o)→∃p,ps[i]? =some p∧Rep c.V s'.heap p v)∧
 (∀i h,St i h→∀d x n,h.get? I≠some ⟨d,none,.seq x n,#[]⟩)∧(∀(elts:List PySem.Expr) k pos i v (s:Shared) (Q:Unit→Shared→Prop) E,St i s.heap→Q () s→wpAny (model pw c.w) c.A (letOwnedTupleGo (.Tuple elts k pos) (.ref I) v) Q E s)∧(∀i h,St i h→∃o,h.get? I=some o)
noncomputable def IterOkL(c:Cx)(q:PV)(ps:List PV):Prop:=∀s v,c.St s→Rep c.V s.heap q v→wpAny (model pw c.w) c.A (pyIter v) (UL c ps s) (fun _ _=>False) s
noncomputable def VO(c:Cx)(e:PySem.Expr)(ps:List PV):Prop:=∀s,c.St s→wpAny (model pw c.w) c.A (eval e c.env) (fun v s₁=>wpAny (model pw c.w) c.A (pyIter v) (UL c ps s) (fun _ _=>False) s₁) (fun _ _=>False) s
theorem UL.toE{c:Cx}{ps:List PV}{s:Shared}{it:Value}{s₂:Shared}(q:UL c ps s it s₂):We c ps s it s₂:=⟨q.1,q.2.imp fun I q=>q.imp fun fp q=>q.imp fun P q=>q.imp fun St q=>⟨q.1,q.2.1,q.2.2.1,q.2.2.2.1,q.2.2.2.2.1,q.2.2.2.2.2.1,q.2.2.2.2.2.2.1,q.2.2.2.2.2.2.2.1,q.2.2.2.2.2.2.2.2.1⟩⟩
theorem VO.toE{c:Cx}{e:PySem.Expr}{ps:List PV}(h:VO c e ps):KV c e ps:=fun s hs=>wpAny_mono (h s hs) (fun _ _ q=>wpAny_mono q (fun _ _ q=>q.toE) fun _ _ x=>x) fun _ _ x=>x
section
variable{c:Cx}
theorem go_list{prog:Program}{w:World}{A:Around}{s:Shared}{E:Value→Shared→Prop}{elts:List PySem.Expr}{k}{pos:Pos}{I l:Addr}{i:Nat}{v:Value}{Q:Unit→Shared→Prop}(hit:s.heap.IsListIter I l i)(hQ:Q () s):
 wpAny (model prog w) A (letOwnedTupleGo (.Tuple elts k pos) (.ref I) v) Q E s:=by
 cases v<;>first |exact wpAny_letOwnedTupleGo_listiter hit hQ |exact wpAny_pure hQ
theorem Um{ps:List PV}:IterOkL c (.lst ps) ps:=fun s v hs hr=>by
 rw[Rep]at hr
 obtain⟨a,vs,rfl,hta,hl,hra⟩:=hr
 refine wpAny_pyIter_list hl.isList ⟨XZ _,s.heap.objs.size,[s.heap.objs.size,a],fun i v=>vs[i]? =some v,fun i h=>h.IsListIter s.heap.objs.size a i∧h.IsList a vs,rfl,Yc _,hs.1.size,?_,?_,?_,?_,?_,?_,?_⟩
 ·have hne:a≠s.heap.objs.size:=Nat.ne_of_lt (by obtain⟨n,e⟩:=hl;exact Heap.lt_size e)
  have W:=Walks.list (prog:=pw) (w:=c.w) c.hh s.heap.objs.size a hne vs
  rw[show ps.length=vs.size by rw[←hra.length,Array.length_toList]]
  exact W
 ·exact⟨⟨_,Zp rfl,rfl,rfl⟩,let⟨n,e⟩:=hl;⟨_,Heap.get?_push_of_some _ e,rfl,n,rfl⟩⟩
 ·intro b hb
  have hsz:(s.heap.push {cls:=.type "list_iterator",data:=.fields #[.ref a,.int 0 0]}).objs.size=s.heap.objs.size+1:=Heap.size_push ..
  rw[hsz]
  rcases Xz.mp hb with rfl |hb
  ·exact⟨Nat.lt_succ_self _,hs.2.1.vol.new hs.1.size,.inl rfl⟩
  ·rcases Xz.mp hb with rfl |hb
   ·obtain⟨n,e⟩:=hl
    exact⟨Nat.lt_succ_of_lt (Heap.lt_size e),hta,.inr ⟨_,_,_,Heap.get?_push_of_some _ e⟩⟩
   ·cases hb
 ·intro i v s' hv hk
  obtain⟨p,hp,hpr⟩:∃p,ps[i]? =some p∧Rep c.V s.heap p v:=by
   have hi:i<vs.toList.length:=by
    rw[Array.length_toList]
    rcases Nat.lt_or_ge i vs.size with q |q
    ·exact q
    ·rw[Array.getElem?_eq_none q]at hv;cases hv
   rw[hra.length]at hi
   obtain⟨u,hu,hur⟩:=hra.at (List.getElem?_eq_getElem hi)
   rw[Array.getElem?_toList]at hu
   have hv':vs[i]? =some v:=hv
   rw[hu]at hv'
   obtain rfl:=Option.some.inj hv'
   exact⟨_,List.getElem?_eq_getElem hi,hur⟩
  refine⟨p,hp,hpr.mono fun b c x n hn e=>hk b _ (Nat.ne_of_lt (Heap.lt_size e)) hn (Heap.get?_push_of_some _ e)⟩
 ·rintro i h ⟨⟨o,ho,hc,hd⟩,_⟩ d x n e
  rw[e]at ho
  obtain rfl:=Option.some.inj ho
  cases hd
 ·intro elts k pos i v s Q E hst hQ
  exact go_list hst.1 hQ
 ·rintro i h ⟨⟨o,ho,_⟩,_⟩
  exact⟨o,ho⟩
theorem YX{ps:List PV}:Wd c (.lst ps) ps:=fun s v hs hr=>wpAny_mono (Um s v hs hr) (fun _ _ q=>q.toE) fun _ _ x=>x
noncomputable def signs(x:Str):List PV:=x.cps.toList.map fun n=>.str ⟨#[n]⟩
theorem iter_str{x:Str}:Wd c (.str x) (signs x):=fun s v hs hr=>by
 rw[Rep]at hr
 obtain⟨t,rfl⟩:=hr
 refine PySem.wpAny_pyIter_strU ⟨XZ _,s.heap.objs.size,[s.heap.objs.size],SignAt x,fun i h=>h.IsStrIter s.heap.objs.size (strIterType x) x t i,rfl,Yc _,hs.1.size,?_,?_,?_,?_,?_,?_⟩
 ·rw[show(signs x).length=x.cps.size by unfold signs;rw[List.length_map,Array.length_toList]]
  cases ha:x.cps.all (· <128)
  ·simpa [strIterType,ha]using Walks.strWide (prog:=pw) (w:=c.w) c.hh s.heap.objs.size x t
  ·simpa [strIterType,ha]using Walks.strAscii (prog:=pw) (w:=c.w) c.hh s.heap.objs.size x t
 ·exact⟨_,Zp rfl,rfl,rfl⟩
 ·intro b hb
  rw[List.mem_singleton]at hb
  subst hb
  exact⟨by show _<(s.heap.push _).objs.size;rw[Heap.size_push];exact Nat.lt_succ_self _,hs.2.1.vol.new hs.1.size,.inl rfl⟩
 ·rintro i v s' ⟨n,u,hn,rfl⟩ hk
  refine⟨.str ⟨#[n]⟩,?_,by rw[Rep];exact⟨_,rfl⟩⟩
  unfold signs
  rw[List.getElem?_map,Array.getElem?_toList,hn];rfl
 ·rintro i h ⟨o,ho,hc,hd⟩ d x n e
  rw[e]at ho
  obtain rfl:=Option.some.inj ho
  cases hd
 ·intro elts k pos i v s Q E hst hQ
  obtain⟨o,ho,hc,hd⟩:=hst
  unfold letOwnedTupleGo
  cases v<;>first |exact wpAny_pure hQ |skip
  refine wpAny_bind (wpAny_load ho ?_)
  have ht:strIterType x="str_ascii_iterator"∨strIterType x="str_iterator":=by unfold strIterType;split<;>simp
  rw[hc,hd]
  rcases ht with ht |ht<;>(rw[ht];exact wpAny_pure hQ)
theorem Jo{l:Bool}{s s':Shared}(k:Kp l s s'){I:Addr}(h:s'.heap.get? I=none)(hI:439≤I):s.heap.get? I=none:=by
 cases e:s.heap.get? I with
 |none=>rfl
 |some o=>have:=k.get (Xv hI) e;rw[h]at this;cases this
theorem YF{e:PySem.Expr}{q:PV}{ps:List PV}(h:EvOk c e q)(hi:Wd c q ps):KV c e ps:=fun s hs=>Xi h hs fun v s₁ r k hs₁=>
 wpAny_mono (hi s₁ v hs₁ r) (fun it s₂ q=>⟨k.trans q.1,q.2.imp fun I q=>q.imp fun fp q=>q.imp fun P q=>q.imp fun St q=>⟨q.1,Jo k q.2.1 q.2.2.1,q.2.2⟩⟩) fun _ _ x=>x
theorem iterL_of{e:PySem.Expr}{q:PV}{ps:List PV}(h:EvOk c e q)(hi:IterOkL c q ps):VO c e ps:=fun s hs=>Xi h hs fun v s₁ r k hs₁=>
 wpAny_mono (hi s₁ v hs₁ r) (fun it s₂ q=>⟨k.trans q.1,q.2.imp fun I q=>q.imp fun fp q=>q.imp fun P q=>q.imp fun St q=>⟨q.1,Jo k q.2.1 q.2.2.1,q.2.2⟩⟩) fun _ _ x=>x
end
section
variable{prog:Program}{w:World}{A:Around}{R:Result→Shared→Prop}{s:Shared}
theorem comp_loop{elt target iter:PySem.Expr}{ifs:List PySem.Expr}{scope:Scope}{pos:Pos}{it acc:Value}{env:Env}(I:Nat→Shared→Prop)
(turn:∀n s,I n s→wpAny (model prog w) A (pyNext it) (fun r s₁=>match r with
   |none=>R (.ok .next) s₁
   |some v=>wpAny (model prog w) A (letOwnedTupleGo target it v) (fun _ s₀=>wpAny (model prog w) A (assign target env v) (fun _ s₂=>
     wpAny (model prog w) A (forIn ifs true fun c r=>if r=true then do let ok ←isTrue c env (eval c env);pure (ForInStep.yield ok)else pure (ForInStep.yield r)) (fun ok s₃=>
      if ok=true then wpAny (model prog w) A (eval elt env) (fun x s₄=>
       wpAny (model prog w) A (PySem.call (.builtin "list.append") [acc,x]) (fun _ s₅=>∃m,m<n∧I m s₅) (fun _ _=>False) s₄) (fun _ _=>False) s₃
      else ∃m,m<n∧I m s₃) (fun _ _=>False) s₂) (fun _ _=>False) s₀) (fun _ _=>False) s₁) (fun _ _=>False) s)
(n:Nat)(h:I n s):codeAny (model prog w) A (.compLoop (.ListComp elt [⟨target,iter,ifs,0⟩] scope pos) 0 it acc env) R s:=by
 refine codeAny_loop rfl I (fun n s hI=> ?_) n h
 show wpAny _ A ((compTurn (.ListComp elt [⟨target,iter,ifs,0⟩] scope pos) 0 it acc env).onRaise (fun x=>do noteFrame x env;theTreesLotGoes x)) _ _ s
 refine wpAny_noted ?_
 rw[compTurn_list]
 refine wpAny_bind (wpAny_standAt (wpAny_bind (wpAny_mono (turn n s hI) (fun r s₁ h₁=> ?_) fun _ _ h'=>h'.elim)))
 cases r with
 |none=>exact wpAny_pure h₁
 |some v=>
  refine wpAny_bind (wpAny_mono h₁ (fun _ s₀ h₀=>wpAny_bind (wpAny_mono h₀ (fun _ s₂ h₂=>wpAny_bind (wpAny_mono h₂ (fun ok s₃ h₃=> ?_) fun _ _ h'=>h'.elim)) fun _ _ h'=>h'.elim)) fun _ _ h'=>h'.elim)
  cases ok with
  |false=>exact wpAny_pure ⟨rfl,h₃⟩
  |true=>exact wpAny_bind (wpAny_bind (wpAny_mono h₃ (fun x s₄ h₄=>wpAny_bind (wpAny_mono h₄ (fun _ s₅ h₅=>wpAny_pure (wpAny_pure ⟨rfl,h₅⟩)) fun _ _ h'=>h'.elim)) fun _ _ h'=>h'.elim))
end
noncomputable def Cx.inner(c:Cx)(scope:Scope)(hk:scope.kind= .function)(cl:List (Str×Addr))(C:Addr)(V:List Addr)(ρ:List (Str×PV)):Cx:=
 {w:=c.w,g:=c.g,A:=c.A,env:=compEnvC scope cl C c.env,ρ:=ρ,lam:=false,V:=V,X:=fun _=>True,hX:=fun _ _ _ _=>trivial,hh:=c.hh,kind:=by simp[compEnvC,relabel,hk],globs:=c.globs,blts:=c.blts,ground:=c.ground}
noncomputable def UZ(c:Cx)(t:PySem.Expr)(p:PV)(bs:List (Str×PV)):Prop:=∀s v,c.St s→Rep c.V s.heap p v→wpAny (model pw c.w) c.A (assign t c.env v) (fun _ s'=>(c.wr (bs++c.ρ)).St s'∧KpF c.lam [c.env.locals] s s') (fun _ _=>False) s
noncomputable def VG(c:Cx)(ifs:List PySem.Expr)(b:Bool):Prop:=∀s,c.St s→
 wpAny (model pw c.w) c.A (forIn ifs true fun e r=>if r=true then do let ok ←isTrue e c.env (eval e c.env);pure (ForInStep.yield ok)else pure (ForInStep.yield r)) (fun ok s'=>ok=b∧Kp c.lam s s') (fun _ _=>False) s
section
variable{c:Cx}
theorem ZQ:VG c [] true:=fun s hs=>wpAny_tests_nil ⟨rfl,.refl s⟩
theorem Ke{e:PySem.Expr}{b:Bool}(h:XE c e b):VG c [e] b:=fun s hs=>wpAny_tests_one (h.go s hs)
theorem ZS{x:Str}{p:PV}{v:Value}{Q:Unit→Shared→Prop}{E:Value→Shared→Prop}{s:Shared}(hs:c.St s)(hv:Rep c.V s.heap p v)
(hk:c.env.kindOf x=some .local)(h:∀s',(c.set x p).St s'→KpF c.lam [c.env.locals] s s'→Q () s'):wpAny (model pw c.w) c.A (storeName c.env x v) Q E s:=by
 obtain⟨B,F,hX⟩:=hs
 obtain⟨m,hn,hm⟩:=F.ns
 refine wpAny_storeName_local hk hn (fun h' hn' hsb=> ?_) (by rw[c.kind];rfl)
 have k:KpF c.lam [c.env.locals] s {s with heap:=h',toks:=s.toks+1}:=⟨h',_,rfl,fun b o _ m e=>by
  have:b≠c.env.locals:=fun q=>m (by rw[q];exact List.mem_cons_self ..)
  rw[hsb.2 b this];exact e⟩
 have nseq:∀d x n,s.heap.get? c.env.locals≠some ⟨d,Option.none,.seq x n,#[]⟩:=fun d x n e=>by
  obtain⟨o,es,ep,ho,hd,_⟩:=hn
  rw[e]at ho
  obtain rfl:=Option.some.inj ho
  cases hd
 refine h _ ⟨?_,⟨⟨_,hn',fun y pv hy hky=> ?_⟩,fun y pv hy hky=> ?_,F.high,fun y a ha=> ?_,F.vol.same hsb (let⟨o,_,_,ho,_⟩:=hn';⟨o,ho⟩),F.apart⟩,c.hX _ _ hX (let⟨a,b,e,q⟩:=k;⟨a,b,e,fun x o n m y=>q x o n (fun z=>m (by rw[List.mem_singleton]at z;subst z;exact List.mem_cons_self ..)) y⟩)⟩ k
 ·exact B.same F.high hsb
 ·rcases YO hy with⟨rfl,rfl⟩ | ⟨hne,hy⟩
  ·exact⟨v,by simp,hv.same hsb nseq⟩
  ·obtain⟨u,hu,hr⟩:=hm y pv hy hky
   exact⟨u,by simp[hne,hu],hr.same hsb nseq⟩
 ·rcases YO hy with⟨rfl,rfl⟩ | ⟨hne,hy⟩
  ·rcases hky with q |q<;>(have q':c.env.kindOf y=_:=q;rw[hk]at q';cases q')
  ·obtain⟨a,u,ha,ht,⟨o,ho,hd⟩,hr⟩:=F.cell y pv hy hky
   refine⟨a,u,ha,ht,⟨o,?_,hd⟩,hr.same hsb nseq⟩
   show h'.get? a=some o
   rw[hsb.2 a (fun q=>by
    obtain⟨o',es,ep,ho',hd',_⟩:=hn
    rw[q,ho']at ho
    obtain rfl:=Option.some.inj ho
    rw[hd']at hd;cases hd)]
   exact ho
 ·obtain⟨ht,u,o,ho,hd⟩:=F.there y a ha
  refine⟨ht,u,o,?_,hd⟩
  show h'.get? a=some o
  rw[hsb.2 a (fun q=>by
     obtain⟨o',es,ep,ho',hd',_⟩:=hn
     rw[q,ho']at ho
     obtain rfl:=Option.some.inj ho
     rw[hd']at hd;cases hd)]
  exact ho
theorem YW{x:Str}{pos:Pos}{p:PV}(hk:c.env.kindOf x=some .local):UZ c (.Name x pos) p [(x,p)]:=fun s v hs hr=>
 wpAny_assign_Name (ZS hs hr hk fun s' h k=>⟨h,k⟩)
theorem tgt_pair{x y:Str}{px py pos:Pos}{k}{p q:PV}(hx:c.env.kindOf x=some .local)(hy:c.env.kindOf y=some .local):UZ c (.Tuple [.Name x px,.Name y py] k pos) (.tup [p,q]) [(y,q),(x,p)]:=fun s v hs hr=>by
 rw[Rep]at hr
 obtain⟨a,vs,rfl,hta,⟨n,hl⟩,hr⟩:=hr
 obtain⟨l⟩:=vs
 obtain⟨u,v',h1,h2⟩:=Wi hr
 refine assign_Tuple_tuple c.hh ⟨_,hl,rfl,n,rfl⟩ rfl rfl fun h₁ he=> ?_
 have k1:Kp c.lam s {s with heap:=h₁}:=⟨h₁,s.toks,rfl,fun b o _ e=>he b o (Nat.ne_of_lt (Heap.lt_size e)) e⟩
 show wpAny _ _ (assignInOrder [assign (.Name x px) c.env,assign (.Name y py) c.env] [u,v']) _ _ _
 refine assignInOrder_cons (wpAny_assign_Name (ZS (hs.kp k1) (h1.kp k1) hx fun s₂ hs₂ k2=> ?_))
 have h2':Rep c.V s₂.heap q v':=(h2.kp k1).mono fun b c' x n hn e=>by
  refine k2.get (Xu hn) (fun hm=> ?_) e
  rw[List.mem_singleton]at hm
  obtain⟨m,hns,_⟩:=(hs.kp k1).2.1.ns
  obtain⟨o,es,ep,ho,hd,_⟩:=hns
  rw[hm,ho]at e
  obtain rfl:=Option.some.inj e
  cases hd
 refine assignInOrder_cons (wpAny_assign_Name (ZS (c:=c.set x p) hs₂ h2' hy fun s₃ hs₃ k3=> ?_))
 exact assignInOrder_nil ⟨hs₃,(KpF.of k1).trans (k2.trans k3)⟩
theorem inner_st{l:Bool}{scope:Scope}{hk:scope.kind= .function}{cl:List (Str×Addr)}{C D:Addr}{cap:List (Str×PV)}{s s':Shared}{m:Str→Option Value}(hs:c.St s)(k:Kp l s s')
(hcl:∀x a,cl.lookup x=some a→c.env.cells.lookup x=some a)
(hcap:∀x q,cap.lookup x=some q→c.ρ.lookup x=some q∧c.env.kindOf x=some .cell∧(compEnvC scope cl C c.env).kindOf x=some .cell∧(cl.lookup x).isSome=true)
(hn:s'.heap.Ns C m)(hC:439≤C)(hD:s.heap.get? D=none)(hDl:∃o,s'.heap.get? D=some o)(hD9:439≤D):(c.inner scope hk cl C (D::c.V) cap).St s':=by
 have ex:∀p v,Rep c.V s.heap p v→Rep (D::c.V) s.heap p v:=fun p v r=>r.sub fun b d x n hb e=>Yx (Xu hb) fun hm=>by
  rcases List.mem_cons.mp hm with q |q
  ·rw[q,hD]at e;cases e
  ·exact XM hb q
 refine⟨hs.1.kp k,⟨⟨m,hn,fun x pv hx hkx=> ?_⟩,fun x pv hx hkx=> ?_,hC,fun x a ha=> ?_,fun b hb=> ?_,fun x y a hx hy=>hs.2.1.apart x y a (hcl x a hx) (hcl y a hy)⟩,trivial⟩
 ·have:=(hcap x pv hx).2.2.1
  have h2:(compEnvC scope cl C c.env).kindOf x=some .local:=hkx
  rw[this]at h2;cases h2
 ·obtain⟨h1,h2,_,h4⟩:=hcap x pv hx
  obtain⟨a,v,ha,ht,⟨o,ho,hd⟩,hr⟩:=hs.2.1.cell x pv h1 (.inl h2)
  obtain⟨a',ha'⟩:=Option.isSome_iff_exists.mp h4
  have:a'=a:=Option.some.inj ((hcl x a' ha').symm.trans ha)
  subst this
  exact⟨a',v,ha',ht,⟨o,k.get ht ho,hd⟩,(ex _ _ hr).kp k⟩
 ·obtain⟨h1,v,o,ho,hd⟩:=hs.2.1.there x a (hcl x a ha)
  exact⟨h1,v,o,k.get (Xv h1) ho,hd⟩
 ·rcases List.mem_cons.mp hb with q |q
  ·rw[q];exact⟨hD9,hDl⟩
  ·exact hs.2.1.vol.kp k b q
theorem JO{h:Heap}{a:Addr}{m}(hn:h.Ns a m):∀d x n,h.get? a≠some ⟨d,Option.none,.seq x n,#[]⟩:=fun d x n e=>by
 obtain⟨o,es,ep,ho,hd,_⟩:=hn
 rw[e]at ho
 obtain rfl:=Option.some.inj ho
 cases hd
noncomputable def KW(c:Cx)(scope:Scope)(hk:scope.kind= .function)(cl:List (Str×Addr))(cap:List (Str×PV))(tgt elt:PySem.Expr)(ifs:List PySem.Expr)(ps:List PV)(keep:PV→Bool)(f:PV→PV):Prop:=
 ∀C V,439≤C→∀(i:Nat) p,ps[i]? =some p→∃bs,UZ (c.inner scope hk cl C V cap) tgt p bs∧VG (c.inner scope hk cl C V (bs++cap)) ifs (keep p)∧(keep p=true→EvOk (c.inner scope hk cl C V (bs++cap)) elt (f p))
noncomputable def Uu(e:PySem.Expr):Bool:=e.ctorIdx==23||e.ctorIdx==25
theorem Xb.snoc{V:List Addr}{h:Heap}{p:PV}{v:Value}(hp:Rep V h p v):∀{ps:List PV} {vs:List Value},Xb V h ps vs→Xb V h (ps++[p]) (vs++[v])
 | [],vs,r=>by rw[Xb]at r;subst r;show Xb V h [p] [v];rw[Xb];exact⟨v,[],rfl,hp,by rw[Xb]⟩
 |q::ps,vs,r=>by
  rw[Xb]at r
  obtain⟨u,w,rfl,h1,h2⟩:=r
  show Xb V h (q::(ps++[p])) (u::(w++[v]))
  rw[Xb]
  exact⟨u,_,rfl,h1,Xb.snoc hp h2⟩
theorem VV{w:World}{A:Around}{E:Value→Shared→Prop}{tgt:PySem.Expr}{it v:Value}{s:Shared}{Q:Unit→Shared→Prop}(htg:Uu tgt=true)(h0:Q () s)(h1:∀elts k pos,wpAny (model pw w) A (letOwnedTupleGo (.Tuple elts k pos) it v) Q E s):wpAny (model pw w) A (letOwnedTupleGo tgt it v) Q E s:=by
 cases tgt<;>first | (cases htg;done) |exact wpAny_pure h0 |exact h1 _ _ _
theorem comp_core{elt tgt iter:PySem.Expr}{ifs:List PySem.Expr}{scope:Scope}{hk:scope.kind= .function}{cl:List (Str×Addr)}{cap:List (Str×PV)}{pos:Pos}{ps:List PV}{keep:PV→Bool}{f:PV→PV}{RR:Value→Addr→Result→Shared→Prop}{s:Shared}
(hs:c.St s)(hi:KV c iter ps)(hsz:ps.length≤sizeLine)(htg:Uu tgt=true)
(hcell:∀y∈scope.names,y.2≠.cell)
(hcl:∀x a,cl.lookup x=some a→c.env.cells.lookup x=some a)
(hcap:∀x q,cap.lookup x=some q→c.ρ.lookup x=some q∧c.env.kindOf x=some .cell∧(∀C,(compEnvC scope cl C c.env).kindOf x=some .cell)∧(cl.lookup x).isSome=true)
(hb:KW c scope hk cl cap tgt elt ifs ps keep f)
(hRR:∀D C s' m,Kp c.lam s s'→s'.heap.Ns C m→439≤C→439≤D→s.heap.get? C=none→s.heap.get? D=none→D≠C→Rep c.V s'.heap (.lst ((ps.filter keep).map f)) (.ref D)→RR (.ref D) C (.ok .next) s'):
 wpAny (model pw c.w) c.A (eval iter c.env) (fun xv s₁=>wpAny (model pw c.w) c.A (pyIter xv) (fun it s₂=>wpAny (model pw c.w) c.A (newList []) (fun acc s₃=>
  wpAny (model pw c.w) c.A (newFunctionEnv scope c.env.globals cl [] c.env.qual none .none (some c.env)) (fun cenv s₄=>
   codeAny (model pw c.w) c.A (.compStart (.ListComp elt [⟨tgt,iter,ifs,0⟩] scope pos) 0 it acc {cenv with scope:=relabel scope c.env}) (RR acc cenv.locals) s₄) (fun _ _=>False) s₃) (fun _ _=>False) s₂) (fun _ _=>False) s₁) (fun _ _=>False) s:=by
 refine wpAny_mono (hi s hs) (fun xv s₁ h₁=>wpAny_mono h₁ (fun it s₂ h₂=> ?_) fun _ _ x=>x) fun _ _ x=>x
 obtain⟨k₂,I,fp,P,St,rfl,hIn,hI,W,hst,hfp,hP,hIseq,hgo⟩:=h₂
 have hs₂:=hs.kp k₂
 refine wpAny_newObj_type (wpAny_newFunctionEnv hcell (by intro y hy;simp at hy) (fun h₁ hns₁ hsb₁=> ?_) hk)
 dsimp only at hns₁ hsb₁ ⊢
 generalize hH2:s₂.heap.push {cls:=.type "list",dict:=none,data:=.seq ([]:List Value).toArray}=H2 at hns₁ hsb₁ ⊢
 have hC:H2.objs.size=s₂.heap.objs.size+1:=by rw[←hH2,Heap.size_push]
 have hDC:s₂.heap.objs.size≠H2.objs.size:=by rw[hC];exact Nat.ne_of_lt (Nat.lt_succ_self _)
 have below:∀b,b<s₂.heap.objs.size→b≠H2.objs.size∧b≠s₂.heap.objs.size:=fun b hb=>⟨by rw[hC];exact Nat.ne_of_lt (Nat.lt_succ_of_lt hb),Nat.ne_of_lt hb⟩
 have hDf:s₂.heap.objs.size∉fp:=fun hm=>Nat.lt_irrefl _ (hfp _ hm).1
 have hCf:H2.objs.size∉fp:=fun hm=>by have:=(hfp _ hm).1;rw[hC]at this;exact Nat.lt_irrefl _ (Nat.lt_of_succ_lt this)
 have hIf:I∈fp:=W.sub I (List.mem_singleton.mpr rfl)
 have hIlt:I<s₂.heap.objs.size:=(hfp I hIf).1
 have h439:439≤s₂.heap.objs.size:=hs₂.1.size
 have hC439:439≤H2.objs.size:=by rw[hC];exact Nat.le_succ_of_le h439
 have old:∀b o,s₂.heap.get? b=some o→h₁.get? b=some o:=fun b o e=>hsb₁.extBut b o (below b (Heap.lt_size e)).1 (Heap.get?_push_of_some _ (hH2▸Heap.get?_push_of_some _ e))
 have hacc:h₁.PlainList s₂.heap.objs.size #[]:=⟨_,hsb₁.extBut _ _ hDC (Heap.get?_push_of_some _ (hH2▸Heap.get?_push_size _ rfl))⟩
 have hst₁:St 0 h₁:=W.frame _ _ _ hst fun b _ o e=>old b o e
 have fresh:∀a,s₂.heap.objs.size≤a→s.heap.get? a=none:=fun a ha=>Jo k₂ (by
  cases e:s₂.heap.get? a with
  |none=>rfl
  |some o'=>exact absurd (Heap.lt_size e) (Nat.not_lt.mpr ha)) (Nat.le_trans h439 ha)
 have lt2:∀{b:Addr} {o:Obj},s₂.heap.get? b=some o→b<s₂.heap.objs.size:=fun e=>Heap.lt_size e
 generalize hD:s₂.heap.objs.size=D at *
 generalize hCC:H2.objs.size=CC at *
 -- the relation to the state behind the iterator's making
 let Rl:Heap→Prop:=fun h'=>∀b o,b≠I→s₂.heap.get? b=some o→h'.get? b=some o
 have up:∀(h':Heap) tk,Rl h'→Kp c.lam s {s₂ with heap:=h',toks:=tk}:=fun h' tk hr=>by
  obtain⟨h2,t2,rfl,kk⟩:=k₂
  exact⟨h',tk,rfl,fun b o n e=>hr b o (fun q=>by rw[q,hIn]at e;cases e) (kk b o n e)⟩
 have loop:∀s₃:Shared,s₃={s₂ with heap:=h₁,toks:=s₂.toks+([]:List (Str×Value)).length}→
  codeAny (model pw c.w) c.A (.compLoop (.ListComp elt [⟨tgt,iter,ifs,0⟩] scope pos) 0 (.ref I) (.ref D) (compEnvC scope cl CC c.env))
   (RR (.ref D) CC) s₃:=by
  rintro s₃ rfl
  let J:Nat→Shared→Prop:=fun k s'=>∃h' tk m' ys i,s'={s₂ with heap:=h',toks:=tk}∧i≤ps.length∧k=ps.length+1-i∧St i h'∧Rl h'∧h'.PlainList D ys∧h'.Ns CC m'∧ys.size≤i∧
      Xb (D::c.V) h' (((ps.take i).filter keep).map f) ys.toList
  refine comp_loop J ?_ (ps.length+1)
   ⟨h₁,_,_,#[],0,rfl,Nat.zero_le _,rfl,hst₁,fun b o _ e=>old b o e,hacc,hns₁,Nat.le_refl _,XW⟩
  rintro k s' ⟨h',tk,m',ys,i,rfl,hi,hkk,hst',hr',hacc',hn',hysz,hrep'⟩
  by_cases hlt:i<ps.length
  ·refine W.item i _ _ _ hlt hst' fun v h₂ tk₂ hPv hst₂ hk₂=> ?_
   have hk₂':∀b o,b≠I→h'.get? b=some o→h₂.get? b=some o:=fun b o n e=>hk₂ b o (fun m=>n (List.mem_singleton.mp m)) e
   have hr₂:Rl h₂:=fun b o n e=>hk₂' b o n (hr' b o n e)
   obtain⟨p,hp,hpr₀⟩:=hP i v s₂ hPv fun _ _ _ _ e=>e
   have hpr:Rep (D::c.V) h₂ p v:=(Rep.sub (U:=D::c.V) (fun b d x n hb e=>Yx (Xu hb) fun hm=>by
    rcases List.mem_cons.mp hm with q |q
    ·exact absurd (lt2 e) (by rw[q];exact Nat.lt_irrefl _)
    ·exact XM hb q) p v hpr₀).mono fun b d x n hb e=>hr₂ b _ (fun q=>hIseq _ _ hst _ _ _ (q▸e)) e
   obtain⟨bs,htgt,htests,helt⟩:=hb CC (D::c.V) hC439 i p hp
   have hn₂:h₂.Ns CC m':=hn'.at' fun o e=>hk₂' _ o (Ne.symm (below I hIlt).1) e
   have hDI:D≠I:=Ne.symm (below I hIlt).2
   have hacc₂:h₂.PlainList D ys:=hacc'.at fun o e=>hk₂' _ o hDI e
   have hin:(c.inner scope hk cl CC (D::c.V) cap).St {s₂ with heap:=h₂,toks:=tk₂}:=inner_st hs (up h₂ tk₂ hr₂) hcl (fun x q hx=>let⟨a,b,d,e⟩:=hcap x q hx;⟨a,b,d _,e⟩) hn₂ hC439 (fresh _ (Nat.le_refl _)) (let⟨n,e⟩:=hacc₂;⟨_,e⟩) h439
   have go:wpAny (model pw c.w) c.A (letOwnedTupleGo tgt (.ref I) v) (fun _ s₀=>s₀={s₂ with heap:=h₂,toks:=tk₂}) (fun _ _=>False) {s₂ with heap:=h₂,toks:=tk₂}:=VV htg rfl fun _ _ _=>hgo _ _ _ (i+1) v _ _ _ hst₂ rfl
   refine wpAny_mono go (fun _ s₀ e₀=> ?_) fun _ _ x=>x
   subst e₀
   refine wpAny_mono (htgt _ v hin hpr) (fun _ s₃ h₃=> ?_) fun _ _ x=>x
   obtain⟨st₃,k₃⟩:=h₃
   refine wpAny_mono (htests s₃ st₃) (fun ok s₄ h₄=> ?_) fun _ _ x=>x
   obtain⟨rfl,k₄⟩:=h₄
   have st₄:=Cx.St.kp (c:=c.inner scope hk cl CC (D::c.V) (bs++cap)) st₃ k₄
   obtain⟨h₃,tk₃,rfl,k₃⟩:=k₃
   obtain⟨h₄,tk₄,rfl,k₄⟩:=k₄
   have k₃':∀b o,b≠CC→h₂.get? b=some o→h₄.get? b=some o:=fun b o n e=>k₄ b o rfl (k₃ b o rfl (fun q=>n (List.mem_singleton.mp q)) e)
   have hr₄:Rl h₄:=fun b o n e=>k₃' b o (below b (lt2 e)).1 (hr₂ b o n e)
   have hst₄:St (i+1) h₄:=W.frame _ _ _ hst₂ fun b hb o e=>k₃' b o (fun q=>hCf (q▸hb)) e
   have hacc₄:h₄.PlainList D ys:=hacc'.at fun o e=>k₃' _ o hDC (hk₂' _ o hDI e)
   have hrep₄:Xb (D::c.V) h₄ (((ps.take i).filter keep).map f) ys.toList:=hrep'.mono fun b d x n hnb e=>by
    refine k₃' b _ (fun q=> ?_) (hk₂' b _ (fun q=> ?_) e)
    ·exact JO hn' _ _ _ (q▸e)
    ·subst q;exact hIseq _ _ hst' _ _ _ e
   obtain⟨m₄,hn₄,_⟩:=st₄.2.1.ns
   have htake:ps.take (i+1)=ps.take i++[p]:=by
    rw[List.take_add_one,hp];rfl
   cases hkp:keep p with
   |false=>
    rw[if_neg Bool.false_ne_true]
    refine⟨_,hkk▸Nat.sub_lt_sub_left (Nat.lt_succ_of_lt hlt) (Nat.lt_succ_self i),h₄,tk₄,m₄,ys,i+1,rfl,hlt,rfl,hst₄,hr₄,hacc₄,hn₄,Nat.le_succ_of_le hysz,?_⟩
    rw[htake,List.filter_append,List.filter_cons_of_neg (by rw[hkp];exact Bool.false_ne_true),List.filter_nil,List.append_nil]
    exact hrep₄
   |true=>
    rw[if_pos rfl]
    refine Xi (c:=c.inner scope hk cl CC (D::c.V) (bs++cap)) (helt hkp) st₄ fun y s₅ ry k₅ st₅=> ?_
    obtain⟨m₅,hn₅,_⟩:=st₅.2.1.ns
    obtain⟨h₅,tk₅,rfl,k₅⟩:=k₅
    have k5:∀b o,h₄.get? b=some o→h₅.get? b=some o:=fun b o e=>k₅ b o rfl e
    refine wpAny_list_append_plain (hsz:=Nat.le_trans hysz (Nat.le_trans hi hsz)) (hacc₄.at fun o e=>k5 _ o e) fun h₆ hl₆ hs₆=> ?_
    have k6:∀b o,b≠D→h₅.get? b=some o→h₆.get? b=some o:=fun b o n e=>hs₆.extBut b o n e
    refine⟨_,hkk▸Nat.sub_lt_sub_left (Nat.lt_succ_of_lt hlt) (Nat.lt_succ_self i),h₆,tk₅,m₅,ys.push y,i+1,rfl,hlt,rfl,?_,fun b o n e=>k6 b o (below b (lt2 e)).2 (k5 b o (hr₄ b o n e)),hl₆,hn₅.sameBut hs₆ (Ne.symm hDC),by rw[Array.size_push];exact Nat.succ_le_succ hysz,?_⟩
    ·exact W.frame _ _ _ hst₄ fun b hb o e=>k6 b o (fun q=>hDf (q▸hb)) (k5 b o e)
    ·rw[htake,List.filter_append,List.filter_cons_of_pos hkp,List.filter_nil,List.map_append,Array.toList_push]
     refine Xb.snoc ?_ ?_
     ·exact ry.mono fun b d x n hb e=>k6 b _ (fun q=>XM hb (by rw[q];exact List.mem_cons_self ..)) e
     ·exact hrep₄.mono fun b d x n hb e=>k6 b _ (fun q=>XM hb (by rw[q];exact List.mem_cons_self ..)) (k5 b _ e)
  ·obtain rfl:=Nat.le_antisymm hi (Nat.le_of_not_lt hlt)
   refine W.done _ _ _ hst' fun h₂ tk₂ hk₂=> ?_
   have hk₂':∀b o,b≠I→h'.get? b=some o→h₂.get? b=some o:=fun b o n e=>hk₂ b o (fun m=>n (List.mem_singleton.mp m)) e
   have hr₂:Rl h₂:=fun b o n e=>hk₂' b o n (hr' b o n e)
   have hDI:D≠I:=Ne.symm (below I hIlt).2
   refine hRR _ _ {s₂ with heap:=h₂,toks:=tk₂} m' (up h₂ tk₂ hr₂) (hn'.at' fun o e=>hk₂' _ o (Ne.symm (below I hIlt).1) e) hC439 h439 (fresh _ (by rw[hC];exact Nat.le_succ _)) (fresh _ (Nat.le_refl _)) hDC ?_
   rw[Rep]
   rw[List.take_length]at hrep'
   refine⟨_,ys,rfl,(hD▸hs₂.2.1.vol.new (by rw[hD];exact h439)),hacc'.at fun o e=>hk₂' _ o hDI e,(Xb.sub (fun b d x n hb e=>Yx (Xu hb) fun m=>XM hb (List.mem_cons_of_mem _ m)) _ _ hrep').mono fun b d x n hnb e=>hk₂' b _ (fun q=>hIseq _ _ hst' _ _ _ (q▸e)) e⟩
 exact codeAny_compStart_list (loop _ rfl) (W.self 0 _ _ _ hst₁ (loop _ rfl))
end
section
variable{c:Cx}
theorem Jf{elt tgt iter:PySem.Expr}{ifs:List PySem.Expr}{scope:Scope}(hk:scope.kind= .function)(cl:List (Str×Addr))(cap:List (Str×PV)){pos:Pos}{ps:List PV}(keep:PV→Bool)(f:PV→PV)
(hi:KV c iter ps)(hsz:ps.length≤sizeLine)(htg:Uu tgt=true)
(hcell:(scope.names.all fun y=>y.2 != .cell)=true)(hloc:(scope.names.all fun y=>y.2 != .local||decide (scope.names.lookup y.1=some .local))=true)
(hclos:closureFor scope c.env=pure cl)(hfold:∀x,foldedSetIterable iter c.env x=pure x)
(hcl:∀x a,cl.lookup x=some a→c.env.cells.lookup x=some a)
(hcap:∀x q,cap.lookup x=some q→c.ρ.lookup x=some q∧c.env.kindOf x=some .cell∧(∀C,(compEnvC scope cl C c.env).kindOf x=some .cell)∧(cl.lookup x).isSome=true)
(hb:KW c scope hk cl cap tgt elt ifs ps keep f):EvOk c (.ListComp elt [⟨tgt,iter,ifs,0⟩] scope pos) (.lst ((ps.filter keep).map f)):=.mk fun s hs=>by
 rw[eval_ListComp]
 refine wpAny_comprehension_free (use:=none) rfl hfold hclos hk (fun y hy hl=> ?_) ?_
 ·have:=List.all_eq_true.mp hloc y hy
  rw[hl]at this
  simpa using this
 refine comp_core (RR:=fun acc C=>compPost (model pw c.w) c.A (fun _ _=>False) none _ acc C) (hk:=hk) hs hi hsz htg (fun y hy=>by have:=List.all_eq_true.mp hcell y hy;simpa using this) hcl hcap hb ?_
 intro D C s' m k hn hC hD hCn hDn hDC hr
 refine⟨m,hn,fun h' hs'=>⟨hr.same hs' (JO hn),?_⟩⟩
 obtain⟨h1,t1,rfl,kk⟩:=k
 exact⟨h',t1,rfl,fun b o n e=>hs'.extBut b o (fun q=>by rw[q,hCn]at e;cases e) (kk b o n e)⟩
theorem FrSt.same{V:List Addr}{env:Env}{ρ:List (Str×PV)}{s:Shared}{C:Addr}{h':Heap}(F:FrSt V env ρ s)(hs:Heap.SameBut C s.heap h')(hn:∀d x n,s.heap.get? C≠some ⟨d,Option.none,.seq x n,#[]⟩)
(hL:env.locals≠C)(hc:∀x a,env.cells.lookup x=some a→a≠C)(hV:C∉V):FrSt V env ρ {s with heap:=h'}:=by
 obtain⟨m,hns,hm⟩:=F.ns
 refine⟨⟨m,JP (fun o e=>by show h'.get? _=_;rw[hs.2 _ hL];exact e) hns,fun x pv hx hk=> ?_⟩,fun x pv hx hk=> ?_,F.high,fun x a ha=> ?_,fun b hb=> ?_,F.apart⟩
 ·obtain⟨v,hv,hr⟩:=hm x pv hx hk
  exact⟨v,hv,hr.same hs hn⟩
 ·obtain⟨a,v,ha,ht,⟨o,ho,hd⟩,hr⟩:=F.cell x pv hx hk
  exact⟨a,v,ha,ht,⟨o,by show h'.get? a=some o;rw[hs.2 _ (hc x a ha)];exact ho,hd⟩,hr.same hs hn⟩
 ·obtain⟨h1,v,o,ho,hd⟩:=F.there x a ha
  exact⟨h1,v,o,by show h'.get? a=some o;rw[hs.2 _ (hc x a ha)];exact ho,hd⟩
 ·obtain⟨h1,o,e⟩:=F.vol b hb
  exact⟨h1,o,by show h'.get? b=some o;rw[hs.2 _ (fun q=>hV (q▸hb))];exact e⟩
theorem fr_live{s:Shared}(hs:c.St s){b:Addr}(hb:b∈[c.env.locals]∨∃x,c.env.cells.lookup x=some b):∃o,s.heap.get? b=some o:=by
 rcases hb with hb | ⟨x,hb⟩
 ·rw[List.mem_singleton]at hb;subst hb
  obtain⟨m,⟨o,_,_,ho,_⟩,_⟩:=hs.2.1.ns
  exact⟨o,ho⟩
 ·obtain⟨_,v,o,ho,_⟩:=hs.2.1.there x b hb
  exact⟨o,ho⟩
theorem stm_comp0{y:Str}{py spos:Pos}{elt tgt iter:PySem.Expr}{ifs:List PySem.Expr}{scope:Scope}(hk:scope.kind= .function)(cl:List (Str×Addr))(cap:List (Str×PV)){pos:Pos}{ps:List PV}(keep:PV→Bool)(f:PV→PV)
(hsw:swapsWith (.ListComp elt [⟨tgt,iter,ifs,0⟩] scope pos) (some (.Name y py)) spos.line c.env=pure true)
(hst:Storable c y)(hfr:(c.env.cells.all fun x=>decide ((c.env.cells.lookup x.1)=some x.2))=true)
(hi:KV c iter ps)(hsz:ps.length≤sizeLine)(htg:Uu tgt=true)
(hcell:(scope.names.all fun y=>y.2 != .cell)=true)(hloc:(scope.names.all fun y=>y.2 != .local||decide (scope.names.lookup y.1=some .local))=true)
(hclos:closureFor scope c.env=pure cl)(hfold:∀x,foldedSetIterable iter c.env x=pure x)
(hcl:∀x a,cl.lookup x=some a→c.env.cells.lookup x=some a)
(hcap:∀x q,cap.lookup x=some q→c.ρ.lookup x=some q∧c.env.kindOf x=some .cell∧(∀C,(compEnvC scope cl C c.env).kindOf x=some .cell)∧(cl.lookup x).isSome=true)
(hb:KW c scope hk cl cap tgt elt ifs ps keep f):ZY c (.Assign [.Name y py] (.ListComp elt [⟨tgt,iter,ifs,0⟩] scope pos) spos) (.next ((y,.lst ((ps.filter keep).map f))::c.ρ)):=.mk fun s hs=>by
 rw[exec_Assign_Name_used _ _ _ _ hsw]
 refine wpAny_bind (wpAny_standAt (wpAny_bind ?_))
 show wpAny _ c.A (do let _ ←comprehension (.ListComp elt [⟨tgt,iter,ifs,0⟩] scope pos) scope c.env _ (newList []) false (eval iter c.env) (some (assign (.Name y py) c.env))) _ _ s
 refine wpAny_bind (wpAny_mono (wpAny_comprehension_free (use:=some (assign (.Name y py) c.env)) (Q:=fun _ s'=>VM c (.next ((y,.lst ((ps.filter keep).map f))::c.ρ)) .next s'∧KpF c.lam c.fr s s') rfl hfold hclos hk (fun y hy hl=> ?_) ?_) (fun _ s' hq=>wpAny_pure (wpAny_pure hq)) fun _ _ e=>e)
 ·have:=List.all_eq_true.mp hloc y hy
  rw[hl]at this
  simpa using this
 refine comp_core (RR:=fun acc C=>compPost (model pw c.w) c.A (fun _ _=>False) (some (assign (.Name y py) c.env)) _ acc C) (hk:=hk) hs hi hsz htg (fun y hy=>by have:=List.all_eq_true.mp hcell y hy;simpa using this) hcl hcap hb ?_
 intro D C s' m k hn hC hD hCn hDn hDC hr
 have hcells:∀b,b∈c.env.cells.map (·.2)→∃x,c.env.cells.lookup x=some b:=fun b hb=>by
  obtain⟨x,hx,rfl⟩:=List.mem_map.mp hb
  exact⟨x.1,of_decide_eq_true (List.all_eq_true.mp hfr x hx)⟩
 have hCfr:C∉c.fr:=fun hm=>by
  have:∃o,s.heap.get? C=some o:=fr_live hs (by
   rcases List.mem_cons.mp hm with q |q
   ·exact .inl (by rw[q];exact List.mem_cons_self ..)
   ·exact .inr (hcells _ q))
  obtain⟨o,e⟩:=this
  rw[hCn]at e;cases e
 have hs':=hs.kp k
 show wpAny _ c.A (assign (.Name y py) c.env (.ref D)) _ _ s'
 refine wpAny_assign_Name (Zj hs' hr hst fun s₂ hs₂ k₂=> ?_)
 have hn₂:s₂.heap.Ns C m:=hn.at' fun o e=>k₂.get (Xv hC) hCfr e
 refine⟨m,hn₂,fun h' hsb=> ?_⟩
 have hCV:C∉c.V:=fun hm=>by
  obtain⟨_,o,e⟩:=hs.2.1.vol C hm
  rw[hCn]at e;cases e
 have kf:KpF c.lam c.fr s {s₂ with heap:=h'}:=by
  obtain⟨h1,t1,rfl,kk⟩:=k
  obtain⟨h2,t2,rfl,kk2⟩:=k₂
  exact⟨h',t2,rfl,fun b o n m e=>hsb.extBut b o (fun q=>by rw[q,hCn]at e;cases e) (kk2 b o n m (kk b o n e))⟩
 refine⟨⟨rfl,hs₂.1.same (t:=s₂.toks) hC hsb,?_,c.hX _ _ hs.2.2 kf⟩,kf⟩
 refine hs₂.2.1.same hsb (JO hn₂) (fun q=>hCfr (by rw[←q];exact List.mem_cons_self ..)) (fun x a ha q=>hCfr (by rw[←q];exact List.mem_cons_of_mem _ (Zu ha))) hCV
theorem stm_comp{y:Str}{py spos:Pos}{ρ:List (Str×PV)}{elt tgt iter:PySem.Expr}{ifs:List PySem.Expr}{scope:Scope}(hk:scope.kind= .function)(cl:List (Str×Addr))(cap:List (Str×PV)){pos:Pos}{ps:List PV}(keep:PV→Bool)(f:PV→PV)
(hsw:swapsWith (.ListComp elt [⟨tgt,iter,ifs,0⟩] scope pos) (some (.Name y py)) spos.line c.env=pure true)
(hst:Storable (c.wr ρ) y)(hfr:(c.env.cells.all fun x=>decide ((c.env.cells.lookup x.1)=some x.2))=true)
(hi:KV (c.wr ρ) iter ps)(hsz:ps.length≤sizeLine)(htg:Uu tgt=true)
(hcell:(scope.names.all fun y=>y.2 != .cell)=true)(hloc:(scope.names.all fun y=>y.2 != .local||decide (scope.names.lookup y.1=some .local))=true)
(hclos:closureFor scope c.env=pure cl)(hfold:∀x,foldedSetIterable iter c.env x=pure x)
(hcl:∀x a,cl.lookup x=some a→c.env.cells.lookup x=some a)
(hcap:∀x q,cap.lookup x=some q→ρ.lookup x=some q∧c.env.kindOf x=some .cell∧(∀C,(compEnvC scope cl C c.env).kindOf x=some .cell)∧(cl.lookup x).isSome=true)
(hb:KW (c.wr ρ) scope hk cl cap tgt elt ifs ps keep f):ZY (c.wr ρ) (.Assign [.Name y py] (.ListComp elt [⟨tgt,iter,ifs,0⟩] scope pos) spos) (.next ((y,.lst ((ps.filter keep).map f))::ρ)):=
 stm_comp0 (c:=c.wr ρ) hk cl cap keep f hsw hst hfr hi hsz htg hcell hloc hclos hfold hcl hcap hb
end
theorem max_nat(k n:Nat):max (0:Int) (min (k:Int) (n:Int))=((min k n:Nat):Int):=by
 rcases Nat.le_total k n with h |h
 ·rw[Nat.min_eq_left h,Int.min_eq_left (Int.ofNat_le.mpr h)];exact Int.max_eq_right (Int.natCast_nonneg k)
 ·rw[Nat.min_eq_right h,Int.min_eq_right (Int.ofNat_le.mpr h)];exact Int.max_eq_right (Int.natCast_nonneg n)
theorem mx_nat(k n:Nat):max (0:Int) (min (if(k:Int)<0 then(k:Int)+n else k) n)=((min k n:Nat):Int):=by
 rw[if_neg (Int.not_lt.mpr (Int.natCast_nonneg k))];exact max_nat k n
theorem lo_nat(lo:Option Nat)(n:Nat):(match lo.map (fun k:Nat=>(k:Int))with |none=>(0:Int) |some i=>max 0 (min (if i<0 then i+n else i) n))=((min (lo.getD 0) n:Nat):Int):=by
 cases lo with
 |none=>exact congrArg Int.ofNat (Nat.zero_min n).symm
 |some k=>exact mx_nat k n
theorem hi_nat(hi:Option Nat)(n:Nat):(match hi.map (fun k:Nat=>(k:Int))with |none=>(n:Int) |some i=>max 0 (min (if i<0 then i+n else i) n))=((min (hi.getD n) n:Nat):Int):=by
 cases hi with
 |none=>exact congrArg Int.ofNat (Nat.min_self n).symm
 |some k=>exact mx_nat k n
theorem slice_nat{α:Type}(xs:Array α)(lo hi:Option Nat)(n:Nat)(hn:n=xs.size):
 (sliceRange (match lo.map (fun k:Nat=>(k:Int))with |none=>0 |some i=>max 0 (min (if i<0 then i+n else i) n)) (match hi.map (fun k:Nat=>(k:Int))with |none=>(n:Int) |some i=>max 0 (min (if i<0 then i+n else i) n)) 1).filterMap (xs[·]?)=(xs.toList.drop (lo.getD 0)).take (hi.getD n-lo.getD 0):=by
 have hl:=lo_nat lo n
 have hh:=hi_nat hi n
 rw[hl,hh,sliceRange_one,pick_run]
 have hlen:xs.toList.length=n:=by rw[hn,Array.length_toList]
 rcases Nat.lt_or_ge n (lo.getD 0)with h |h
 ·rw[Nat.min_eq_right (Nat.le_of_lt h),List.drop_of_length_le (Nat.le_of_eq hlen),List.drop_of_length_le (hlen.symm▸Nat.le_of_lt h),List.take_nil,List.take_nil]
 ·rw[Nat.min_eq_left h]
  rcases Nat.lt_or_ge n (hi.getD n)with h2 |h2
  ·rw[Nat.min_eq_right (Nat.le_of_lt h2),List.take_of_length_le (l:=xs.toList.drop _) (i:=n-_) (by rw[List.length_drop,hlen];exact Nat.le_refl _),List.take_of_length_le (by rw[List.length_drop,hlen];exact Nat.sub_le_sub_right (Nat.le_of_lt h2) _)]
  ·rw[Nat.min_eq_left h2]
noncomputable def sl{α:Type}(l:List α)(lo hi:Option Nat):List α:=(l.drop (lo.getD 0)).take (hi.getD l.length-lo.getD 0)
theorem slicePick_nat(items:Array Value)(lo hi:Option Nat):slicePick items (lo.map fun k:Nat=>(k:Int)) (hi.map fun k:Nat=>(k:Int)) none=(sl items.toList lo hi).toArray:=by
 have h:=slice_nat items lo hi items.size rfl
 unfold slicePick sl
 rw[Array.length_toList,←h]
 congr 2
theorem full_bounds{a b n:Nat}(h0:0<n)(h:min b n-min a n=n):a=0∧n≤b-0:=by
 have hb:n≤min b n:=Nat.le_trans (Nat.le_of_eq h.symm) (Nat.sub_le _ _)
 refine⟨?_,Nat.le_trans hb (Nat.min_le_left _ _)⟩
 rw[Nat.le_antisymm (Nat.min_le_right _ _) hb]at h
 rcases Nat.eq_zero_or_pos a with z |z
 ·exact z
 ·exact absurd h (Nat.ne_of_lt (Nat.sub_lt h0 (Nat.lt_min.mpr ⟨z,h0⟩)))
noncomputable def Str.sl(x:Str)(lo hi:Option Nat):Str:=⟨(Mine.sl x.cps.toList lo hi).toArray⟩
theorem slicePicked_nat(x:Str)(lo hi:Option (Nat×Tok)):(slicePicked x (lo.map fun p=>((p.1:Int),p.2)) (hi.map fun p=>((p.1:Int),p.2)) none).filterMap (x.cps[·]?)=sl x.cps.toList (lo.map (·.1)) (hi.map (·.1)):=by
 have h:=slice_nat x.cps (lo.map (·.1)) (hi.map (·.1)) x.cps.size rfl
 unfold sl
 rw[Array.length_toList,←h]
 congr 1
 unfold slicePicked Builtin.Str.strSliceIndices
 cases lo<;>cases hi<;>rfl
theorem slicePicked_eq(x:Str)(lo hi:Option (Nat×Tok)):slicePicked x (lo.map fun p=>((p.1:Int),p.2)) (hi.map fun p=>((p.1:Int),p.2)) none=sliceRange ((min ((lo.map (·.1)).getD 0) x.length:Nat):Int) ((min ((hi.map (·.1)).getD x.length) x.length:Nat):Int) 1:=by
 rw[←lo_nat,←hi_nat]
 unfold slicePicked Builtin.Str.strSliceIndices
 cases lo<;>cases hi<;>rfl
section
variable{c:Cx}
noncomputable def VI(c:Cx)(e:Option PySem.Expr)(k:Option Nat):Prop:=∀s,c.St s→wpAny (model pw c.w) c.A (evalPart e c.env) (fun v s'=>(match k with |none=>v= .none |some n=>∃t,v= .int (n:Int) t)∧Kp c.lam s s') (fun _ _=>False) s
theorem YR:VI c none none:=fun s hs=>by rw[evalPart_none];exact wpAny_pure ⟨rfl,.refl s⟩
theorem Yy{e:PySem.Expr}{n:Nat}(h:EvOk c e (.int n)):VI c (some e) (some n):=fun s hs=>by
 rw[evalPart_some]
 exact Xi h hs fun v s' r k _=>by rw[Rep]at r;exact⟨r,k⟩
noncomputable def UK(c:Cx)(p:PV)(lo hi:Option Nat)(r:PV):Prop:=∀s v vl vu a,c.St s→Rep c.V s.heap p v→(match lo with |none=>vl= .none |some n=>∃t,vl= .int (n:Int) t)→(match hi with |none=>vu= .none |some n=>∃t,vu= .int (n:Int) t)→
 s.heap.get? a=some {cls:=.type "slice",data:=.fields #[vl,vu,.none]}→ItemOn (model pw c.w) c.A (fun _ _=>False) v (.ref a) (fun x s'=>Rep c.V s'.heap r x∧Kp c.lam s s') s
theorem Ki{x:Str}{lo hi:Option Nat}(hx:x.length≤sizeLine):UK c (.str x) lo hi (.str (Str.sl x lo hi)):=fun s v vl vu a hs hr hl hu ha=>by
 rw[Rep]at hr
 obtain⟨t,rfl⟩:=hr
 obtain⟨l,rfl,el⟩:∃l:Option (Nat×Tok),vl=partValue (l.map fun p=>((p.1:Int),p.2))∧l.map (·.1)=lo:=by
  cases lo with
  |none=>exact⟨none,hl,rfl⟩
  |some n=>obtain⟨t,rfl⟩:=hl;exact⟨some (n,t),rfl,rfl⟩
 obtain⟨u,rfl,eu⟩:∃l:Option (Nat×Tok),vu=partValue (l.map fun p=>((p.1:Int),p.2))∧l.map (·.1)=hi:=by
  cases hi with
  |none=>exact⟨none,hu,rfl⟩
  |some n=>obtain⟨t,rfl⟩:=hu;exact⟨some (n,t),rfl,rfl⟩
 refine⟨"str",_,F.slot_str_getitem.lookup,typeIs_str _ _ _,wpAny_getItem_str_slice (st:=none) ⟨_,ha,rfl,rfl⟩ rfl ?_⟩
 have e:=slicePicked_nat x l u
 rw[el,eu]at e
 have hlen:(sl x.cps.toList lo hi).length≤x.length:=((List.take_sublist _ _).trans (List.drop_sublist _ _)).length_le
 unfold sliceMade
 split
 ·rename_i hc
  refine⟨?_,.refl s⟩
  rw[Rep]
  refine⟨t,?_⟩
  have hfull:Str.sl x lo hi=x:=by
   have h1:(slicePicked x (l.map fun p=>((p.1:Int),p.2)) (u.map fun p=>((p.1:Int),p.2)) none).length=x.length:=eq_of_beq hc
   rw[slicePicked_eq,el,eu,sliceRange_one,List.length_map,List.length_range]at h1
   have hxl:x.cps.toList.length=x.length:=Array.length_toList
   unfold Str.sl sl
   rw[hxl]
   rcases Nat.eq_zero_or_pos x.length with h0 |h0
   ·obtain⟨⟨y⟩⟩:=x
    obtain rfl:y=[]:=List.eq_nil_of_length_eq_zero h0
    rw[List.drop_nil,List.take_nil]
   ·obtain⟨h3,h4⟩:=full_bounds h0 h1
    rw[h3,List.drop_zero,List.take_of_length_le (by rw[hxl];exact h4)]
  rw[hfull]
 ·rw[e]
  exact⟨by show(sl x.cps.toList lo hi).toArray.size≤_;rw[List.size_toArray];exact Nat.le_trans hlen hx,by rw[Rep];exact⟨_,rfl⟩,.tok _⟩
theorem YZ{a:PySem.Expr}{lo hi:Option PySem.Expr}{pos p:Pos}{q r:PV}{l u:Option Nat}(ha:EvOk c a q)(hl:VI c lo l)(hu:VI c hi u)(hk:UK c q l u r):EvOk c (.Subscript a (.Slice lo hi none p) pos) r:=.mk fun s hs=>by
 rw[arm_eval_Subscript]
 refine wpAny_bind (Xi ha hs fun v s₁ r₁ k₁ st₁=> ?_)
 refine wpAny_bind (wpAny_holding (wpAny_Slice ?_))
 refine wpAny_mono (hl s₁ st₁) (fun vl s₂ q₂=> ?_) fun _ _ x=>x
 refine wpAny_mono (hu s₂ (st₁.kp q₂.2)) (fun vu s₃ q₃=> ?_) fun _ _ x=>x
 rw[evalPart_none]
 refine wpAny_pure ?_
 refine wpAny_bind (wpAny_standAt ?_)
 have kp:Kp c.lam s₃ {s₃ with heap:=s₃.heap.push {cls:=.type "slice",data:=.fields #[vl,vu,.none]}}:=XZ _
 show wpAny _ _ (subscriptTail a (.Slice lo hi none p) v (.ref s₃.heap.objs.size)) _ _ _
 obtain⟨T,id,h1,hT,hg⟩:=hk _ v vl vu s₃.heap.objs.size (((st₁.kp q₂.2).kp q₃.2).kp kp) (((r₁.kp q₂.2).kp q₃.2).kp kp) q₂.1 q₃.1 (Zp rfl)
 exact tail_item ⟨T,id,h1,hT,wpAny_mono hg (fun x s' q=>⟨q.1,(((k₁.trans q₂.2).trans q₃.2).trans kp).trans q.2⟩) fun _ _ x=>x⟩ rfl
end
theorem Xb.drop{V:List Addr}{h:Heap}:∀{ps:List PV} {vs:List Value} (n:Nat),Xb V h ps vs→Xb V h (ps.drop n) (vs.drop n)
 |ps,vs,0,r=>r
 | [],vs,n+1,r=>by rw[Xb]at r;subst r;exact(by rw[List.drop_nil,List.drop_nil,Xb])
 |p::ps,vs,n+1,r=>by
  rw[Xb]at r
  obtain⟨v,w,rfl,_,t⟩:=r
  exact Xb.drop n t
theorem Xb.take{V:List Addr}{h:Heap}:∀{ps:List PV} {vs:List Value} (n:Nat),Xb V h ps vs→Xb V h (ps.take n) (vs.take n)
 |ps,vs,0,r=>by rw[List.take_zero,List.take_zero,Xb]
 | [],vs,n+1,r=>by rw[Xb]at r;subst r;exact(by rw[List.take_nil,List.take_nil,Xb])
 |p::ps,vs,n+1,r=>by
  rw[Xb]at r
  obtain⟨v,w,rfl,hv,t⟩:=r
  rw[List.take_succ_cons,List.take_succ_cons,Xb]
  exact⟨v,_,rfl,hv,Xb.take n t⟩
theorem Xb.append{V:List Addr}{h:Heap}:∀{ps qs:List PV} {vs us:List Value},Xb V h ps vs→Xb V h qs us→Xb V h (ps++qs) (vs++us)
 | [],qs,vs,us,r,r'=>by rw[Xb]at r;subst r;exact r'
 |p::ps,qs,vs,us,r,r'=>by
  rw[Xb]at r
  obtain⟨v,w,rfl,hv,t⟩:=r
  rw[List.cons_append,List.cons_append,Xb]
  exact⟨v,_,rfl,hv,Xb.append t r'⟩
theorem Xb.ints{V:List Addr}{h:Heap}:∀{ns:List Int} {vs:List Value},(vs.length=ns.length)→(∀(j:Nat) (v:Value),vs[j]? =some v→∃(t:Tok) (n:Int),ns[j]? =some n∧v=Value.int n t)→Xb V h (ns.map .int) vs
 | [],[],_,_=>by rw[List.map_nil,Xb]
 |n::ns,v::vs,hl,hv=>by
  rw[List.map_cons,Xb]
  obtain⟨t,m,h1,h2⟩:=hv 0 v rfl
  simp at h1;subst h1
  exact⟨v,vs,rfl,by rw[Rep];exact⟨t,h2⟩,Xb.ints (by simpa using hl) fun j u hu=>by simpa using hv (j+1) u (by simpa using hu)⟩
 |n::ns,[],hl,_=>by simp at hl
 | [],v::vs,hl,_=>by simp at hl
noncomputable def cat(l:List Str):Str:=⟨(l.flatMap fun x=>x.cps.toList).toArray⟩
theorem JX(x:Str)(l:List Str):cat (x::l)=x++cat l:=by
 obtain⟨x⟩:=x
 show(⟨_⟩:Str)=⟨x++_⟩
 congr 1
 simp[cat]
theorem join_cat:∀l:List Str,Str.join ⟨#[]⟩ l=cat l
 | []=>rfl
 | [x]=>by rw[JX];show x=x++cat [];obtain⟨x⟩:=x;show(⟨x⟩:Str)=⟨x++#[]⟩;simp
 |x::y::r=>by
  rw[JX,←join_cat (y::r)]
  show x++⟨#[]⟩++Str.join ⟨#[]⟩ (y::r)=_
  rw[show x++(⟨#[]⟩:Str)=x from by obtain⟨x⟩:=x;show(⟨x++#[]⟩:Str)=⟨x⟩;simp]
theorem txt_join(l:List Str):Txt.join ⟨#[]⟩ l=cat l:=by
 unfold Txt.join
 rw[←join_cat]
 exact StrLaws.glued_eq_join _ _
theorem JI{V:List Addr}{h:Heap}:∀{xs:List Str} {vs:List Value},Xb V h (xs.map .str) vs→StrsAre vs xs
 | [],vs,r=>by rw[List.map_nil,Xb]at r;subst r;exact .nil
 |n::ns,vs,r=>by
  rw[List.map_cons,Xb]at r
  obtain⟨v,w,rfl,h1,h2⟩:=r
  rw[Rep]at h1
  obtain⟨t,rfl⟩:=h1
  exact .cons _ _ (JI h2)
section
variable{c:Cx}
theorem Jm{l:List PV}{lo hi:Option Nat}(hx:l.length≤sizeLine):UK c (.lst l) lo hi (.lst (sl l lo hi)):=fun s v vl vu a hs hr hl hu ha=>by
 rw[Rep]at hr
 obtain⟨b,vs,rfl,hb,hp,hra⟩:=hr
 have e:=slicePick_nat vs lo hi
 have pl:IsPart vl (lo.map fun k:Nat=>(k:Int)):=by
  cases lo with
  |none=>subst hl;exact .none
  |some n=>obtain⟨t,rfl⟩:=hl;exact .int _ _
 have pu:IsPart vu (hi.map fun k:Nat=>(k:Int)):=by
  cases hi with
  |none=>subst hu;exact .none
  |some n=>obtain⟨t,rfl⟩:=hu;exact .int _ _
 have hlen:vs.size=l.length:=by rw[←hra.length,Array.length_toList]
 refine⟨"list",_,slot_list_getitem.lookup,hp.isList.typeIs,wpAny_getItem_list_slice (st:=none) hp.isList ⟨_,ha,rfl,rfl⟩ pl pu .none (by simp) ?_ (by rw[hlen];exact hx)⟩
 rw[e]
 refine⟨?_,XZ _⟩
 rw[Rep]
 refine⟨_,_,rfl,hs.2.1.vol.new hs.1.size,⟨0,Zp rfl⟩,?_⟩
 rw[List.toList_toArray]
 unfold sl
 rw[hra.length]
 exact Xb.kp (l:=c.lam) (s:=s) (XZ _) ((hra.drop _).take _)
theorem Jg{l m:List PV}(h:l.length+m.length≤sizeLine):KX c .Add (.lst l) (.lst m) (.lst (l++m)):=fun s v u hs h1 h2=>by
 rw[Rep]at h1 h2
 obtain⟨a,vs,rfl,_,⟨n,ha⟩,ra⟩:=h1
 obtain⟨b,us,rfl,_,⟨n',hb⟩,rb⟩:=h2
 refine PySem.P.add_list ha hb ⟨?_,XZ _⟩ (by rw[←ra.length,←rb.length,Array.length_toList,Array.length_toList]at h;exact h)
 rw[Rep]
 refine⟨_,_,rfl,hs.2.1.vol.new hs.1.size,⟨0,Zp rfl⟩,?_⟩
 rw[Array.toList_append]
 exact Xb.kp (l:=c.lam) (s:=s) (XZ _) (ra.append rb)
theorem call_len_str{x:Str}(h:x.length<2 ^ 62):ZZ c (.builtin "len") [.str x] (.int x.length):=fun s vs hs h1=>by
 rw[Xb]at h1
 obtain⟨v,r,rfl,h1,h2⟩:=h1
 rw[Xb]at h2;subst h2
 rw[Rep]at h1
 obtain⟨t,rfl⟩:=h1
 exact PySem.P.len_str (by lia) ⟨by rw[Rep];exact⟨_,rfl⟩,.tok _⟩
theorem ZO{l:List PV}(h:l.length<2 ^ 62):ZZ c (.builtin "len") [.lst l] (.int l.length):=fun s vs hs h1=>by
 rw[Xb]at h1
 obtain⟨v,r,rfl,h1,h2⟩:=h1
 rw[Xb]at h2;subst h2
 rw[Rep]at h1
 obtain⟨a,vs,rfl,_,hp,ra⟩:=h1
 have hlen:vs.size=l.length:=by rw[←ra.length,Array.length_toList]
 exact call_len_list hp.isList (by rw[hlen];lia) ⟨by rw[Rep,hlen];exact⟨_,rfl⟩,.tok _⟩
theorem UY{i:Nat}(h:i≤1114111):ZZ c (.builtin "chr") [.int i] (.str ⟨#[i]⟩):=fun s vs hs h1=>by
 rw[Xb]at h1
 obtain⟨v,r,rfl,h1,h2⟩:=h1
 rw[Xb]at h2;subst h2
 rw[Rep]at h1
 obtain⟨t,rfl⟩:=h1
 exact PySem.P.chr_of_int (by simp;lia) ⟨by rw[Rep];exact⟨_,rfl⟩,.tok _⟩
theorem ev_list_range{np rp ip pos:Pos}{ea eb:PySem.Expr}{a n:Nat}(hl:EvOk c (.Name "list" np) (.val (.type "list")))(hr:EvOk c (.Name "range" rp) (.val (.type "range")))(ha:EvOk c ea (.int a))(hb:EvOk c eb (.int (a+n:Nat)))
(hsa:XV ea=false)(hsb:XV eb=false)(hn:a+n<2 ^ 24):EvOk c (.Call (.Name "list" np) [.Call (.Name "range" rp) [ea,eb] [] ip] [] pos) (.lst ((List.range n).map fun i=>.int ((a+i:Nat):Int))):=.mk fun s hs=>by
 show wpAny _ _ (eval (.Name "list" np) c.env >>= fun f=>callWith pos f [] (backTo pos (starEach [.Call (.Name "range" rp) [ea,eb] [] ip] c.env)) (backToKw pos (keywordEach [] c.env))) _ _ s
 refine wpAny_bind (Xi hl hs fun v s₁ r₁ k₁ st₁=> ?_)
 rw[Rep]at r₁
 subst r₁
 refine PyProof.Rows.callWith_type rfl ?_
 rw[Xt (by rfl)]
 refine evalArgs_plain (spliced_cons ?_)
 show wpAny _ _ (eval (.Name "range" rp) c.env >>= fun f=>callWith ip f [] (backTo ip (starEach [ea,eb] c.env)) (backToKw ip (keywordEach [] c.env))) _ _ s₁
 refine wpAny_bind (Xi hr st₁ fun v s₂ r₂ k₂ st₂=> ?_)
 rw[Rep]at r₂
 subst r₂
 have hall:YK c ip [ea,eb] [.int a,.int (a+n:Nat)]:=Xc ha (Xc hb Xd hsb) hsa
 refine PyProof.Rows.callWith_type (ZM (by simp[hsa,hsb])) (YA hall (by simp[hsa,hsb]) st₂ fun vs s₃ q k₃=> ?_)
 rw[Xb]at q
 obtain⟨v1,vs,rfl,q1,q⟩:=q
 rw[Xb]at q
 obtain⟨v2,vs,rfl,q2,q⟩:=q
 rw[Xb]at q;subst q
 rw[Rep]at q1 q2
 obtain⟨t1,rfl⟩:=q1
 obtain⟨t2,rfl⟩:=q2
 refine call_range_2 ?_
 refine spliced_nil ?_
 have st₃:=st₂.kp k₃
 have kp:Kp c.lam s₃ {s₃ with heap:=s₃.heap.push {cls:=.type "range",data:=.fields #[.int (a:Int) t1,.int ((a+n:Nat):Int) t2,.int 1 s₃.toks]},toks:=s₃.toks+1}:=.push _ _
 have st₄:=st₃.kp kp
 refine call_list_range (n:=n) c.hh (IsRange.new ..) (small_one (by lia) (by lia) (by lia) (by lia)) (by rw[rangeSize_one];split<;>lia) (by lia) ?_
 intro h' tk acc' c' hk hS hacc
 have k5:Kp c.lam {s₃ with heap:=s₃.heap.push {cls:=.type "range",data:=.fields #[.int (a:Int) t1,.int ((a+n:Nat):Int) t2,.int 1 s₃.toks]},toks:=s₃.toks+1} {s₃ with heap:=h',toks:=tk}:=⟨h',tk,rfl,fun b o _ e=>hk b o e⟩
 refine⟨?_,(((k₁.trans k₂).trans k₃).trans kp).trans k5⟩
 rw[Rep]
 refine⟨_,acc',rfl,st₄.2.1.vol.new st₄.1.size,⟨c',hS⟩,?_⟩
 have:=Xb.ints (V:=c.V) (h:=h') (ns:=(List.range n).map fun i=>((a+i:Nat):Int)) (vs:=acc'.toList) (by rw[Array.length_toList,hacc.1];simp) (fun j v hj=>by
  rw[Array.getElem?_toList]at hj
  obtain⟨t,rfl⟩:=hacc.2 j v hj
  have hjn:j<n:=by
   rcases Nat.lt_or_ge j acc'.size with q |q
   ·rw[hacc.1]at q;exact q
   ·rw[Array.getElem?_eq_none q]at hj;cases hj
  exact⟨t,_,by rw[List.getElem?_map,List.getElem?_range hjn];rfl,by show Value.int _ t=Value.int (((a+j:Nat):Int)) t;congr 1;lia⟩)
 rw[List.map_map]at this
 exact this
theorem methodOn_join{name:Str}{x:Str}{t:Tok}{pos:Pos}{args:List (Bool×Sem Value)}{Q:Value→Shared→Prop}{s:Shared}(hn:name=Str.ofString "join")(h:wpAny (model pw c.w) c.A (callWith pos (.builtin "str.join") [.str x t] args []) Q (fun _ _=>False) s):
 MethodOnS pw c.w c.A (fun _ _=>False) name (.str x t) pos args Q s:=by
 subst hn
 exact⟨"str","str.join",F.plainAttrs_str,F.slot_str_join,F.type_str_join,typeIs_str _ _ _,(fun _ e=>nomatch e),h⟩
theorem UG{o e:PySem.Expr}{apos pos:Pos}{xs:List Str}(h:EvOk c o (.str ⟨#[]⟩))(he:EvOk c e (.lst (xs.map .str)))(hb:attributeBase o "join" c.env (eval o c.env)=eval o c.env)(hst:XV e=false)(hl:(apos.endLine==pos.line)=true)
(hw:(xs.map (·.length)).sum+xs.length≤1048576):EvOk c (.Call (.Attribute o "join" apos) [e] [] pos) (.str (cat xs)):=.mk fun s hs=>by
 refine Call_method1 hb (Zs hst) hl (Xi h hs fun v s₁ r₁ k₁ st₁=> ?_)
 rw[Rep]at r₁
 obtain⟨t,rfl⟩:=r₁
 refine methodOn_join rfl (callWith_builtin rfl (evalArgs_plain (spliced_cons (Xi he st₁ fun u s₂ r₂ k₂ st₂=>spliced_nil ?_))))
 rw[Rep]at r₂
 obtain⟨a,vs,rfl,_,hp,ra⟩:=r₂
 exact join_listW hp.isList (JI ra) (by decide) hw fun t' k=>⟨by rw[Rep,txt_join];exact⟨_,rfl⟩,(k₁.trans k₂).trans (.tok _)⟩
end
theorem mat_value{kvs:List (Int×Value)}{cs:List (Int×PySem.Str)}(h:Mat kvs cs)(k:Int):match cs.find? (fun p=>decide (p.1=k))with
 |some p=>∃t,valueAt kvs k=some (.str p.2 t)
 |none=>valueAt kvs k=none:=by
 induction h with
 |nil=>rfl
 | @cons i x t kvs cs h ih=>
   by_cases hk:i=k
   ·rw[List.find?_cons_of_pos (by simpa using hk)]
    exact⟨t,by unfold valueAt;rw[List.find?_cons_of_pos (by simpa using hk)];rfl⟩
   ·rw[List.find?_cons_of_neg (by simpa using hk)]
    have e:valueAt ((i,.str x t)::kvs) k=valueAt kvs k:=by unfold valueAt;rw[List.find?_cons_of_neg (by simpa using hk)]
    rw[e];exact ih
noncomputable def b3at(n:Nat):Option Str:=(csB3.find? fun p=>decide (p.1=(n:Int))).map (·.2)
noncomputable def Wj:Option Str→PV
 |some x=>.str x
 |none=>.none
noncomputable def b3(n:Nat):Str:=(b3at n).getD (Txt.lower ⟨#[n]⟩)
section
variable{c:Cx}
theorem VC{l:Bool}{n:Nat}{f:Value}{ps:List PV}{r:PV}(h:FnOk c.w c.g l n f ps r)(hl:l=false∨l=c.lam)(hd:c.A.depth+n<recursionLimit):ZZ c f ps r:=fun s vs hs hv=>by
 refine wpAny_mono (h c.A c.hh hd c.V s vs hs.1 hs.2.1.vol hv) (fun x s' q=>⟨q.1,?_⟩) fun _ _ x=>x
 rcases hl with rfl |rfl
 ·exact q.2.weak
 ·exact q.2
theorem ev_b3get{np apos pos:Pos}{e:PySem.Expr}{n:Nat}(hg:Facts c.w c.g)(h:EvOk c (.Name "b3_exceptions" np) (.val (.ref 57)))(he:EvOk c e (.int n))(hb:attributeBase (.Name "b3_exceptions" np) "get" c.env (eval (.Name "b3_exceptions" np) c.env)=eval (.Name "b3_exceptions" np) c.env)
(hst:XV e=false)(hl:(apos.endLine==pos.line)=true):EvOk c (.Call (.Attribute (.Name "b3_exceptions" np) "get" apos) [e] [] pos) (Wj (b3at n)):=.mk fun s hs=>by
 refine Call_method1 hb (Zs hst) hl (Xi h hs fun v s₁ r₁ k₁ st₁=> ?_)
 rw[Rep]at r₁
 subst r₁
 obtain⟨hf,kvs,hM,hD⟩:=hg.1
 have hget:∀s,c.St s→s.heap.DictOf (intKind pw c.w) 57 kvs:=fun s hs=>hD s.heap (hs.1.1 57 _ rfl (get_unk c.w c.g 57 hf))
 have hm:=(hget s₁ st₁).mapOf
 refine⟨"dict","dict.get",F.plainAttrs_dict,F.slot_dict_get,F.type_dict_get,hm.typeIs,hm.noDict,?_⟩
 refine callWith_builtin rfl (evalArgs_plain (spliced_cons (Xi he st₁ fun u s₂ r₂ k₂ st₂=>spliced_nil ?_)))
 rw[Rep]at r₂
 obtain⟨t,rfl⟩:=r₂
 have hm₂:=(hget s₂ st₂).mapOf
 refine call_meetsIn F.slot_dict_get hm₂.typeIs F.entry_dict_get (F.args_dict_get_2 _ _) (meets_dict_get (intKind pw c.w) 57 (k:=(n:Int)) (by show((n:Int)==n)=true;simp) rfl) ⟨_,hm₂,?_⟩
 have hv:=mat_value hM (n:Int)
 unfold b3at
 cases hq:csB3.find? (fun p=>decide (p.1=(n:Int)))with
 |none=>
  rw[hq]at hv
  rw[show valueAt kvs (n:Int)=none from hv]
  exact⟨by rw[Option.map_none,Wj,Rep];rfl,(k₁.trans k₂).trans (.tok _)⟩
 |some p=>
  rw[hq]at hv
  obtain⟨t',hv⟩:=hv
  rw[hv]
  exact⟨by rw[Option.map_some,Wj,Rep];exact⟨_,rfl⟩,(k₁.trans k₂).trans (.tok _)⟩
end
local macro_rules | `(tactic|walk_at "Ev")=> `(tactic|first
 |exact Xe
 |exact XK
 |exact YI
 |exact JB
 |exact Xa rfl rfl rfl rfl
 |exact Xm (v:=.builtin _) rfl (by kernel_rfl) (by kernel_rfl) rfl
 |exact Xm (v:=.type _) rfl (by kernel_rfl) (by kernel_rfl) rfl
 |exact XA (v:=.ref _) rfl (by kernel_rfl) rfl
 |exact Xd
 | (refine Xc ?_ ?_ rfl<;>walk_at "Ev")
 | (refine XI ?_ ?_ ?_<;>walk_at "Ev")
 | (refine ZW ?_ ?_ ?_ rfl<;>walk_at "Ev")
 | (refine Yp ?_ (by decide)<;>walk_at "Ev")
 |skip)
theorem deep{A:Around}{env:Env}{n m:Nat}(h:A.depth+(n+1)<recursionLimit)(hm:m≤n:=by decide):(A.deeper env).depth+m<recursionLimit:=by
 show A.depth+1+m<recursionLimit
 lia
theorem fn_b3(w:World)(g:Nat→Obj)(hg:Facts w g)(n:Nat):FnOk w g false 1 (.ref 102) [.str ⟨#[n]⟩] (.str (b3 n)):=by
 refine YY (n:=0) (name:="map_table_b3") (params:=fdA (stN 6)) (body:=fdB (stN 6)) (scope:=fdS (stN 6)) (pm:=.str (S "cpy313.stringprep") 289) (doc:=.none) (a:=102) (c':=101) (ns:=["code"]) (o:=o102 w.params) (oc:=o101 w.params) (cvs:=Xn (o101 w.params)) (ct:=2310) (by kernel_rfl) rfl (by kernel_rfl) (by kernel_rfl) rfl (by kernel_rfl) (by kernel_rfl) ?_ (by kernel_rfl) (by kernel_rfl) (by kernel_rfl) (by kernel_rfl) (by kernel_rfl) ?_
 ·intro vs hv
  obtain⟨v,rfl⟩:=len1 hv
  kernel_rfl
 ·intro V A L hh hL hd
  conv=>arg 2;whnf
  refine Yj (Jt (p:=Wj (b3at n)) (ev_b3get hg ?_ ?_ rfl rfl rfl) (.inl rfl) rfl) ?_
  ·walk_at "Ev"
  ·refine XQ (fv:=.builtin "ord") ?_ (ps:=[.str ⟨#[n]⟩]) ?_ rfl (.inl ⟨_,rfl⟩) ZH<;>walk_at "Ev"
  ·cases hb:b3at n with
   |none=>
    refine Yj (Zb (b:=false) (Xk (Xj (p:=.none) (q:=.none) (Xa rfl rfl rfl rfl) YI (YQ rfl) rfl) rfl) YT) ?_
    refine Yg (Xh ?_)
    have e:b3 n=Txt.lower ⟨#[n]⟩:=by unfold b3;rw[hb];rfl
    rw[e]
    exact KQ (Xa rfl rfl rfl rfl) rfl rfl (fit_lower (by show 1≤_;decide))
   |some x=>
    have e:b3 n=x:=by unfold b3;rw[hb];rfl
    rw[e]
    exact Yg (Zb (b:=true) (Xk (Xj (p:=.str x) (q:=.none) (Xa rfl rfl rfl rfl) YI (YQ rfl) rfl) rfl) (Ym (Xh (Xa rfl rfl rfl rfl))))
noncomputable def b1(n:Nat):Bool:=b1ns.any (· ==(n:Int))
noncomputable def ch:PV→Nat
 | .str y=>y.cps[0]?.getD 0
 |_=>0
noncomputable def prep(x:Str):Str:=cat ((x.cps.toList.filter fun n=> !b1 n).map b3)
theorem b3_short(n:Nat):(b3 n).length≤18:=by
 unfold b3
 cases hb:b3at n with
 |none=>have:=len_lower ⟨#[n]⟩;show(Txt.lower ⟨#[n]⟩).length≤18;have h1:(⟨#[n]⟩:Str).length=1:=rfl;lia
 |some x=>
  unfold b3at at hb
  obtain⟨p,hp,rfl⟩:=Option.map_eq_some_iff.mp hb
  have hall:(csB3.all fun p=>decide (p.2.length≤18))=true:=by kernel_rfl
  exact of_decide_eq_true (List.all_eq_true.mp hall p (List.mem_of_find?_eq_some hp))
theorem weight(l:List Nat):((l.map b3).map (·.length)).sum≤18*l.length:=by
 induction l with
 |nil=>simp
 |cons a l ih=>have:=b3_short a;simp only[List.map_cons,List.sum_cons,List.length_cons];lia
theorem signs_at{x:Str}{i:Nat}{p:PV}(h:(signs x)[i]? =some p):∃n,x.cps.toList[i]? =some n∧p= .str ⟨#[n]⟩:=by
 unfold signs at h
 rw[List.getElem?_map]at h
 obtain⟨n,hn,rfl⟩:=Option.map_eq_some_iff.mp h
 exact⟨n,hn,rfl⟩
theorem fn_prepared(w:World)(g:Nat→Obj)(hg:Facts w g)(x:Str)(hx:x.length≤1000):FnOk w g false 2 (.ref 416) [.str x] (.str (prep x)):=by
 refine YY (n:=1) (name:="_law_prepared") (params:=fdA (stN 32)) (body:=fdB (stN 32)) (scope:=fdS (stN 32)) (pm:=.str (S "law_uq0029_01") 3002) (doc:=.none) (a:=416) (c':=415) (ns:=["word"]) (o:=o416 w.params) (oc:=o415 w.params) (cvs:=Xn (o415 w.params)) (ct:=3034) (by kernel_rfl) rfl (by kernel_rfl) (by kernel_rfl) rfl (by kernel_rfl) (by kernel_rfl) ?_ (by kernel_rfl) (by kernel_rfl) (by kernel_rfl) (by kernel_rfl) (by kernel_rfl) ?_
 ·intro vs hv
  obtain⟨v,rfl⟩:=len1 hv
  kernel_rfl
 ·intro V A L hh hL hd
  conv=>arg 2;whnf
  have hres:((signs x).filter (fun p=> !b1 (ch p))).map (fun p=>PV.str (b3 (ch p)))=((x.cps.toList.filter fun n=> !b1 n).map b3).map .str:=by
   unfold signs
   rw[List.filter_map,List.map_map,List.map_map]
   rfl
  refine Ym (Xh ?_)
  refine UG (xs:=(x.cps.toList.filter fun n=> !b1 n).map b3) XK ?_ rfl rfl rfl ?_
  ·rw[←hres]
   refine Jf (by kernel_rfl) [] [] _ _ (YF (q:=.str x) (Xa rfl rfl rfl rfl) iter_str) ?_ rfl (by kernel_rfl) (by kernel_rfl) rfl (fun _=>rfl) (fun x a h=>by simp at h) (fun x q h=>by simp at h) ?_
   ·unfold signs;rw[List.length_map,Array.length_toList]
    exact Nat.le_trans hx (by decide)
   ·intro C V hC i p hp
    obtain⟨n,hn,rfl⟩:=signs_at hp
    refine⟨[("sign",.str ⟨#[n]⟩)],YW rfl,Ke (test_not (Yr (p:=.bool (b1 n)) ?_ YL rfl)),fun _=> ?_⟩
    ·refine XQ (fv:=.ref 56) ?_ (ps:=[.str ⟨#[n]⟩]) ?_ rfl (.inr (.inr ⟨56,o56 w.params,_,rfl,rfl,by kernel_rfl,rfl⟩)) (VC (fn_b1 w g hg n) (.inl rfl) (deep hd))<;>walk_at "Ev"
    ·refine XQ (fv:=.ref 102) ?_ (ps:=[.str ⟨#[n]⟩]) ?_ rfl (.inr (.inr ⟨102,o102 w.params,_,rfl,rfl,by kernel_rfl,rfl⟩)) (VC (fn_b3 w g hg n) (.inl rfl) (deep hd))<;>walk_at "Ev"
  ·have h1:=weight (x.cps.toList.filter fun n=> !b1 n)
   have h2:(x.cps.toList.filter fun n=> !b1 n).length≤x.cps.toList.length:=List.length_filter_le _ _
   have h3:x.cps.toList.length=x.length:=Array.length_toList
   rw[List.length_map]
   lia
noncomputable def Sub(ρ ρ':List (Str×PV)):Prop:=∀x q,ρ.lookup x=some q→ρ'.lookup x=some q
theorem Sub.refl{ρ:List (Str×PV)}:Sub ρ ρ:=fun _ _ h=>h
theorem FrSt.sub{V:List Addr}{env:Env}{ρ ρ':List (Str×PV)}{s:Shared}(F:FrSt V env ρ' s)(h:Sub ρ ρ'):FrSt V env ρ s:=by
 refine⟨?_,fun x pv hx hk=>F.cell x pv (h x pv hx) hk,F.high,F.there,F.vol,F.apart⟩
 obtain⟨m,hn,hm⟩:=F.ns
 exact⟨m,hn,fun x pv hx hk=>hm x pv (h x pv hx) hk⟩
theorem Cx.St.sub{c:Cx}{ρ ρ':List (Str×PV)}{s:Shared}(hs:(c.wr ρ').St s)(h:Sub ρ ρ'):(c.wr ρ).St s:=⟨hs.1,hs.2.1.sub h,hs.2.2⟩
inductive ForR(c:Cx)(tgt:PySem.Expr)(body:List Stmt):List PV→List (Str×PV)→Out→Prop
 |nil {ρ ρ':List (Str×PV)} (h:Sub ρ' ρ):ForR c tgt body [] ρ (.next ρ')
 |next {p ps ρ ρ₀ ρ₁ bs o} (h:Sub ρ₀ ρ) (ht:UZ (c.wr ρ₀) tgt p bs) (hb:XU (c.wr (bs++ρ₀)) body (.next ρ₁)) (hr:ForR c tgt body ps ρ₁ o):ForR c tgt body (p::ps) ρ o
 |cont {p ps ρ ρ₀ ρ₁ bs o} (h:Sub ρ₀ ρ) (ht:UZ (c.wr ρ₀) tgt p bs) (hb:XU (c.wr (bs++ρ₀)) body (.cont ρ₁)) (hr:ForR c tgt body ps ρ₁ o):ForR c tgt body (p::ps) ρ o
 |ret {p ps ρ ρ₀ bs r} (h:Sub ρ₀ ρ) (ht:UZ (c.wr ρ₀) tgt p bs) (hb:XU (c.wr (bs++ρ₀)) body (.ret r)):ForR c tgt body (p::ps) ρ (.ret r)
section
variable{c:Cx}
theorem fr_noseq{s:Shared}(hs:c.St s)(hfr:(c.env.cells.all fun x=>decide ((c.env.cells.lookup x.1)=some x.2))=true){b:Addr}{d x n}(e:s.heap.get? b=some ⟨d,none,.seq x n,#[]⟩):b∉c.fr:=fun hm=>by
 rcases List.mem_cons.mp hm with q |q
 ·obtain⟨m,hns,_⟩:=hs.2.1.ns
  exact JO hns _ _ _ (q▸e)
 ·obtain⟨y,hy,rfl⟩:=List.mem_map.mp q
  obtain⟨_,v,o,ho,hd⟩:=hs.2.1.there y.1 y.2 (of_decide_eq_true (List.all_eq_true.mp hfr y hy))
  rw[e]at ho
  obtain rfl:=Option.some.inj ho
  cases hd
theorem fr_there{s:Shared}(hs:c.St s)(hfr:(c.env.cells.all fun x=>decide ((c.env.cells.lookup x.1)=some x.2))=true){b:Addr}(hm:b∈c.fr):∃o,s.heap.get? b=some o:=fr_live hs (by
 rcases List.mem_cons.mp hm with q |q
 ·exact .inl (by rw[q];exact List.mem_cons_self ..)
 ·obtain⟨y,hy,rfl⟩:=List.mem_map.mp q
  exact .inr ⟨y.1,of_decide_eq_true (List.all_eq_true.mp hfr y hy)⟩)
theorem stm_for0{tgt iter:PySem.Expr}{body:List Stmt}{pos:Pos}{ps:List PV}{o:Out}(hi:KV c iter ps)(hfold:∀x,foldedSetIterable iter c.env x=pure x)(htg:Uu tgt=true)
(hfr:(c.env.cells.all fun x=>decide ((c.env.cells.lookup x.1)=some x.2))=true)(h:ForR c tgt body ps c.ρ o):ZY c (.For tgt iter body [] pos) o:=.mk fun s hs=>by
 refine wpAny_For ?_ hfold
 refine wpAny_mono (hi s hs) (fun xv s₁ h₁=>wpAny_mono h₁ (fun it s₂ h₂=> ?_) fun _ _ x=>x.elim) fun _ _ x=>x
 obtain⟨k₂,I,fp,P,St,rfl,hIn,hI,W,hst,hfp,hP,hIseq,hgo⟩:=h₂
 have hs₂:=hs.kp k₂
 let FR:List Addr:=I::c.fr
 have hIfr:I∉c.fr:=fun hm=>by
  obtain⟨o,e⟩:=fr_there hs hfr hm
  rw[hIn]at e;cases e
 have hfpfr:∀b∈fp,b∉c.fr:=fun b hb=>by
  rcases(hfp b hb).2.2 with q | ⟨d,x,n,e⟩
  ·rw[q];exact hIfr
  ·exact fr_noseq hs₂ hfr e
 let J:Nat→Shared→Prop:=fun k s'=>∃h' tk i ρ,s'={s₂ with heap:=h',toks:=tk}∧i≤ps.length∧k=ps.length+1-i∧St i h'∧(c.wr ρ).St s'∧KpF c.lam FR s₂ s'∧ForR c tgt body (ps.drop i) ρ o
 refine codeAny_forLoop_any J ?_ (ps.length+1)
  ⟨s₂.heap,s₂.toks,0,c.ρ,rfl,Nat.zero_le _,rfl,hst,hs₂,⟨s₂.heap,s₂.toks,rfl,fun b o _ _ e=>e⟩,h⟩
 rintro k s' ⟨h',tk,i,ρ,rfl,hi,hk,hst',st',kf,hR⟩
 have fin:∀{h₃ tk₃},KpF c.lam FR s₂ {s₂ with heap:=h₃,toks:=tk₃}→KpF c.lam c.fr s {s₂ with heap:=h₃,toks:=tk₃}:=fun kf=>((KpF.of k₂).trans kf).drop fun b hb hn=>by
  rcases List.mem_cons.mp hb with q |q
  ·rw[q];exact hIn
  ·exact absurd q hn
 have kI:∀{h₂ tk₂},(∀b o,b∉[I]→h'.get? b=some o→h₂.get? b=some o)→KpF c.lam FR s₂ {s₂ with heap:=h₂,toks:=tk₂}:=fun{h₂ tk₂} hk=>kf.trans ⟨h₂,tk₂,rfl,fun b o n m e=>hk b o (fun q=>m (by rw[List.mem_singleton.mp q];exact .head _)) e⟩
 have after:∀{h₂ tk₂},(∀b o,b∉[I]→h'.get? b=some o→h₂.get? b=some o)→∀ρ₀,Sub ρ₀ ρ→(c.wr ρ₀).St {s₂ with heap:=h₂,toks:=tk₂}:=fun{h₂ tk₂} hk ρ₀ hsub=>by
  have hk₂':∀b o,b≠I→h'.get? b=some o→h₂.get? b=some o:=fun b o n e=>hk b o (fun m=>n (List.mem_singleton.mp m)) e
  have st0:=st'.sub hsub
  have F:=st0.2.1
  refine⟨⟨fun b o n e=>hk₂' b o (fun q=>by have:=Us e;rw[q]at this;exact absurd hI (Nat.not_le.mpr this)) (st0.1.1 b o n e),hs₂.1.2⟩,?_,c.hX _ _ hs.2.2 (fin (kI hk))⟩
  have hL:c.env.locals≠I:=fun q=>hIfr (by rw[←q];exact List.mem_cons_self ..)
  have hcl:∀x a,c.env.cells.lookup x=some a→a≠I:=fun x a ha q=>hIfr (by rw[←q];exact List.mem_cons_of_mem _ (Zu ha))
  have rr:∀p v,Rep c.V h' p v→Rep c.V h₂ p v:=fun p v r=>r.mono fun b d x n _ e=>hk₂' b _ (fun q=>hIseq _ _ hst' _ _ _ (q▸e)) e
  obtain⟨m,hns,hm⟩:=F.ns
  refine⟨⟨m,JP (fun o e=>hk₂' _ o hL e) hns,fun x pv hx hk=>(hm x pv hx hk).imp fun v q=>⟨q.1,rr _ _ q.2⟩⟩,fun x pv hx hk=> ?_,F.high,fun x a ha=> ?_,fun b hb=> ?_,F.apart⟩
  ·obtain⟨a,v,ha,ht,⟨o,ho,hd⟩,hr⟩:=F.cell x pv hx hk
   exact⟨a,v,ha,ht,⟨o,hk₂' _ o (hcl x a ha) ho,hd⟩,rr _ _ hr⟩
  ·obtain⟨h1,v,o,ho,hd⟩:=F.there x a ha
   exact⟨h1,v,o,hk₂' _ o (hcl x a ha) ho,hd⟩
  ·obtain⟨h1,o,e⟩:=F.vol b hb
   refine⟨h1,o,hk₂' _ o (fun q=> ?_) e⟩
   obtain⟨_,o',e'⟩:=hs.2.1.vol b hb
   rw[q,hIn]at e';cases e'
 by_cases hlt:i<ps.length
 ·rw[List.drop_eq_getElem_cons hlt]at hR
  have hpi:ps[i]? =some ps[i]:=List.getElem?_eq_getElem hlt
  generalize ps[i]=p at hpi hR
  refine W.item i _ _ _ hlt hst' fun v h₂ tk₂ hPv hst₂ hk₂=> ?_
  have kf₂:=kI (tk₂:=tk₂) hk₂
  have hpr:Rep c.V h₂ p v:=by
   obtain⟨p',hp',hpr₀⟩:=hP i v s₂ hPv fun _ _ _ _ e=>e
   rw[hpi]at hp'
   obtain rfl:=Option.some.inj hp'
   exact hpr₀.mono fun b d x n hb e=>kf₂.get (Xu hb) (fun q=>by
    rcases List.mem_cons.mp q with q |q
    ·exact hIseq _ _ hst _ _ _ (q▸e)
    ·exact fr_noseq hs₂ hfr e q) e
  have st₂:=after (tk₂:=tk₂) hk₂
  refine wpAny_mono (VV (Q:=fun _ s₀=>s₀={s₂ with heap:=h₂,toks:=tk₂}) (E:=fun _ _=>False) htg rfl fun _ _ _=>hgo _ _ _ (i+1) v _ _ _ hst₂ rfl) (fun _ s₀ e₀=> ?_) fun _ _ x=>x.elim
  subst e₀
  have kfL:∀{s₃},KpF c.lam [c.env.locals] {s₂ with heap:=h₂,toks:=tk₂} s₃→KpF c.lam c.fr {s₂ with heap:=h₂,toks:=tk₂} s₃:=fun k=>k.sub fun b hb=>by rw[List.mem_singleton.mp hb];exact .head _
  have kfF:∀{s₄},KpF c.lam c.fr {s₂ with heap:=h₂,toks:=tk₂} s₄→KpF c.lam FR s₂ s₄:=fun k=>kf₂.trans (k.sub fun b hb=>.tail _ hb)
  have turn:∀{s₄ ρ₁},KpF c.lam c.fr {s₂ with heap:=h₂,toks:=tk₂} s₄→(c.wr ρ₁).St s₄→ForR c tgt body (ps.drop (i+1)) ρ₁ o→∃j,j<k∧J j s₄:=fun{s₄ ρ₁} kq st₄ hr=>by
   have hst₄:St (i+1) s₄.heap:=W.frame _ _ _ hst₂ fun b hb o e=>kq.get (Xu (hfp b hb).2.1) (hfpfr b hb) e
   have kf₄:=kfF kq
   obtain⟨h4,t4,rfl,kk4⟩:=kf₄
   exact⟨_,hk▸Nat.sub_lt_sub_left (Nat.lt_succ_of_lt hlt) (Nat.lt_succ_self i),h4,t4,i+1,ρ₁,rfl,hlt,rfl,hst₄,st₄,⟨h4,t4,rfl,kk4⟩,hr⟩
  cases hR with
  | @next _ _ _ ρ₀ ρ₁ bs _ hsub ht hb hr=>
    refine wpAny_mono (ht _ v (st₂ _ hsub) hpr) (fun _ s₃ h₃=> ?_) fun _ _ x=>x.elim
    refine wpAny_mono (hb.go s₃ h₃.1) (fun f s₄ h₄=> ?_) fun _ _ x=>x.elim
    obtain⟨⟨rfl,st₄⟩,k₄⟩:=h₄
    exact turn ((kfL h₃.2).trans k₄) st₄ hr
  | @cont _ _ _ ρ₀ ρ₁ bs _ hsub ht hb hr=>
    refine wpAny_mono (ht _ v (st₂ _ hsub) hpr) (fun _ s₃ h₃=> ?_) fun _ _ x=>x.elim
    refine wpAny_mono (hb.go s₃ h₃.1) (fun f s₄ h₄=> ?_) fun _ _ x=>x.elim
    obtain⟨⟨rfl,st₄⟩,k₄⟩:=h₄
    exact turn ((kfL h₃.2).trans k₄) st₄ hr
  | @ret _ _ _ ρ₀ bs r hsub ht hb=>
    refine wpAny_mono (ht _ v (st₂ _ hsub) hpr) (fun _ s₃ h₃=> ?_) fun _ _ x=>x.elim
    refine wpAny_mono (hb.go s₃ h₃.1) (fun f s₄ h₄=> ?_) fun _ _ x=>x.elim
    obtain⟨⟨u,rfl,hu⟩,k₄⟩:=h₄
    have kf₄:=kfF ((kfL h₃.2).trans k₄)
    obtain⟨h4,t4,rfl,kk4⟩:=kf₄
    exact⟨⟨u,rfl,hu⟩,fin ⟨h4,t4,rfl,kk4⟩⟩
 ·obtain rfl:=Nat.le_antisymm hi (Nat.le_of_not_lt hlt)
  rw[List.drop_length]at hR
  refine W.done _ _ _ hst' fun h₂ tk₂ hk₂=> ?_
  cases hR with
  | @nil _ ρ' hsub=>exact wpAny_execs_nil ⟨⟨rfl,after hk₂ _ hsub⟩,fin (kI hk₂)⟩
theorem ForR.wr{tgt:PySem.Expr}{body:List Stmt}{ρ':List (Str×PV)}{ps:List PV}{ρ:List (Str×PV)}{o:Out}(h:ForR c tgt body ps ρ o):ForR (c.wr ρ') tgt body ps ρ o:=by
 induction h with
 |nil h=>exact .nil h
 |next h ht hb _ ih=>exact .next h ht hb ih
 |cont h ht hb _ ih=>exact .cont h ht hb ih
 |ret h ht hb=>exact .ret h ht hb
theorem Vl{tgt iter:PySem.Expr}{body:List Stmt}{pos:Pos}{ps:List PV}{ρ:List (Str×PV)}{o:Out}(hi:KV (c.wr ρ) iter ps)(hfold:∀x,foldedSetIterable iter c.env x=pure x)(htg:Uu tgt=true)
(hfr:(c.env.cells.all fun x=>decide ((c.env.cells.lookup x.1)=some x.2))=true)(h:ForR c tgt body ps ρ o):ZY (c.wr ρ) (.For tgt iter body [] pos) o:=stm_for0 (c:=c.wr ρ) hi hfold htg hfr h.wr
end
section
variable{c:Cx}
theorem KS{f:PySem.Str}{np pos:Pos}{es:List PySem.Expr}{ps:List PV}{a:Addr}{o:Obj}{r:PV}{l:Bool}{n:Nat}(h:FnOk c.w c.g l n (.ref a) ps r)(ha:YK c pos es ps)(hl:l=false∨l=c.lam)(hd:c.A.depth+n<recursionLimit)
(hk:c.env.kindOf f=some .globalImplicit)(hn:(es.all fun e=> !XV e)=true)(hx:(f==("__debug__":Str))=false)(hm:(S35 c.w c.g).heap.nsMap mainGlobals f=some (.ref a))(ho:(S35 c.w c.g).heap.get? a=some o)(ht:Xp a=false)(hf:∃fd,o.data= .func fd):
 EvOk c (.Call (.Name f np) es [] pos) r:=
 XQ (XA hk hm hx) ha hn (.inr (.inr (let⟨fd,e⟩:=hf;⟨a,o,fd,rfl,ht,ho,e⟩))) (VC h hl hd)
theorem KL{f:PySem.Str}{np pos:Pos}{es:List PySem.Expr}{ps:List PV}{a:Addr}{o:Obj}{b:Bool}{l:Bool}{n:Nat}(h:FnOk c.w c.g l n (.ref a) ps (.bool b))(ha:YK c pos es ps)(hl:l=false∨l=c.lam)(hd:c.A.depth+n<recursionLimit)
(hk:c.env.kindOf f=some .globalImplicit)(hn:(es.all fun e=> !XV e)=true)(hx:(f==("__debug__":Str))=false)(hm:(S35 c.w c.g).heap.nsMap mainGlobals f=some (.ref a))(ho:(S35 c.w c.g).heap.get? a=some o)(ht:Xp a=false)(hf:∃fd,o.data= .func fd):
 XE c (.Call (.Name f np) es [] pos) b:=Yr (KS h ha hl hd hk hn hx hm ho ht hf) YL rfl
theorem ZR{t:PySem.Expr}{body rest:List Stmt}{pos:Pos}{b:Bool}{r:PV}{o:Out}{ρ:List (Str×PV)}(ht:XE (c.wr ρ) t b)(h1:b=true→XU (c.wr ρ) body (.ret r))(h2:b=false→XU (c.wr ρ) rest o):XU (c.wr ρ) (.If t body [] pos::rest) (if b then .ret r else o):=by
 cases b with
 |true=>exact Yg (Zb (b:=true) ht (h1 rfl))
 |false=>exact Yj (Zb (b:=false) ht YT) (h2 rfl)
end
noncomputable def c4(n:Nat):Bool:=if(n:Int)<64976 then false else if(n:Int)<65008 then true else[65534,65535].any (· ==Builtin.bitAnd (n:Int) 65535)
noncomputable def c6(n:Nat):Bool:=c6ns.any (· ==(n:Int))
noncomputable def c7(n:Nat):Bool:=c7ns.any (· ==(n:Int))
noncomputable def c8(n:Nat):Bool:=c8ns.any (· ==(n:Int))
noncomputable def c9(n:Nat):Bool:=c9ns.any (· ==(n:Int))
noncomputable def bar1(n:Nat):Int:=if c4 n then 4 else if c6 n then 6 else if c7 n then 7 else if c8 n then 8 else if c9 n then 9 else 0
noncomputable def barL:List Nat→Int
 | []=>0
 |n::r=>if bar1 n=0 then barL r else bar1 n
theorem sub_find{ρ:List (Str×PV)}{x:Str}{q:PV}(h:ρ.lookup x=some q):Sub [(x,q)] ρ:=fun y p hy=>by
 obtain⟨rfl,rfl⟩:=lk1 hy
 exact h
theorem fn_bar(w:World)(g:Nat→Obj)(hg:Facts w g)(x:Str):FnOk w g false 2 (.ref 423) [.str x] (.int (barL x.cps.toList)):=by
 refine YY (n:=1) (name:="_law_bar") (params:=fdA (stN 33)) (body:=fdB (stN 33)) (scope:=fdS (stN 33)) (pm:=.str (S "law_uq0029_01") 3002) (doc:=.none) (a:=423) (c':=422) (ns:=["word"]) (o:=o423 w.params) (oc:=o422 w.params) (cvs:=Xn (o422 w.params)) (ct:=3040) (by kernel_rfl) rfl (by kernel_rfl) (by kernel_rfl) rfl (by kernel_rfl) (by kernel_rfl) ?_ (by kernel_rfl) (by kernel_rfl) (by kernel_rfl) (by kernel_rfl) (by kernel_rfl) ?_
 ·intro vs hv
  obtain⟨v,rfl⟩:=len1 hv
  kernel_rfl
 ·intro V A L hh hL hd
  conv=>arg 2;whnf
  have stp:∀{c:Cx} {tgt:PySem.Expr} {body:List Stmt} (ρ':List (Str×PV)),(∀n,∃bs ρ₁,Sub ρ' ρ₁∧UZ (c.wr ρ') tgt (.str ⟨#[n]⟩) bs∧XU (c.wr (bs++ρ')) body (if bar1 n=0 then .next ρ₁ else .ret (.int (bar1 n))))→∀(l:List Nat) (ρ:List (Str×PV)),Sub ρ' ρ→ForR c tgt body (l.map fun n=>.str ⟨#[n]⟩) ρ (if barL l=0 then .next ρ' else .ret (.int (barL l))):=by
   intro c tgt body ρ' hb l
   induction l with
   |nil=>intro ρ hsub;exact .nil hsub
   |cons n r ih=>
    intro ρ hsub
    obtain⟨bs,ρ₁,hs1,ht,hb⟩:=hb n
    show ForR c tgt body (PV.str ⟨#[n]⟩::r.map fun n=>.str ⟨#[n]⟩) ρ (if(if bar1 n=0 then barL r else bar1 n)=0 then .next ρ' else .ret (.int (if bar1 n=0 then barL r else bar1 n)))
    by_cases h:bar1 n=0
    ·rw[if_pos h]
     rw[if_pos h]at hb
     exact .next hsub ht hb (ih ρ₁ hs1)
    ·rw[if_neg h]
     rw[if_neg h]at hb
     rw[if_neg h]
     exact .ret hsub ht hb
  have fin:∀{c:Cx} {ρ:List (Str×PV)} {st:Stmt} {rest:List Stmt} (k:Int) (ρ':List (Str×PV)),ZY (c.wr ρ) st (if k=0 then .next ρ' else .ret (.int k))→XU (c.wr ρ') rest (.ret (.int 0))→XU (c.wr ρ) (st::rest) (.ret (.int k)):=by
   intro c ρ st rest k ρ' h1 h2
   by_cases h:k=0
   ·rw[if_pos h]at h1;subst h;exact Yj h1 h2
   ·rw[if_neg h]at h1;exact Yg h1
  refine fin _ [("word",.str x)] (Vl (ps:=signs x) (YF (q:=.str x) (Xa rfl rfl rfl rfl) iter_str) (fun _=>rfl) rfl rfl (stp [("word",.str x)] (fun n=> ?_) _ _ .refl)) (Yg (Xh Xe))
  refine⟨[("sign",.str ⟨#[n]⟩)],[("sign",.str ⟨#[n]⟩),("word",.str x)],sub_find rfl,YW rfl,?_⟩
  have e:(if c4 n then Out.ret (.int 4)else if c6 n then .ret (.int 6)else if c7 n then .ret (.int 7)else if c8 n then .ret (.int 8)else if c9 n then .ret (.int 9)else .next [("sign",.str ⟨#[n]⟩),("word",.str x)])=(if bar1 n=0 then .next [("sign",.str ⟨#[n]⟩),("word",.str x)]else .ret (.int (bar1 n))):=by
   unfold bar1
   cases c4 n<;>cases c6 n<;>cases c7 n<;>cases c8 n<;>cases c9 n<;>rfl
  rw[←e]
  have arg:∀{c:Cx} {pos pos':Pos},c.ρ.lookup ("sign":Str)=some (PV.str ⟨#[n]⟩)→(match c.env.kindOf "sign" with |some .local |some .cell |some .free=>true |_=>false)=true→YK c pos [.Name ("sign":Str) pos'] [PV.str ⟨#[n]⟩]:=fun h1 h2=>Xc (Xa h1 h2 rfl rfl) Xd rfl
  refine ZR (KL (fn_c4 w g n) (arg rfl rfl) (.inl rfl) (deep hd) rfl rfl rfl (by kernel_rfl) (o:=o109 w.params) (by kernel_rfl) rfl ⟨_,rfl⟩) (fun _=>Yg (Xh Xe)) fun _=> ?_
  refine ZR (KL (fn_c6 w g hg n) (arg rfl rfl) (.inl rfl) (deep hd) rfl rfl rfl (by kernel_rfl) (o:=o121 w.params) (by kernel_rfl) rfl ⟨_,rfl⟩) (fun _=>Yg (Xh Xe)) fun _=> ?_
  refine ZR (KL (fn_c7 w g hg n) (arg rfl rfl) (.inl rfl) (deep hd) rfl rfl rfl (by kernel_rfl) (o:=o133 w.params) (by kernel_rfl) rfl ⟨_,rfl⟩) (fun _=>Yg (Xh Xe)) fun _=> ?_
  refine ZR (KL (fn_c8 w g hg n) (arg rfl rfl) (.inl rfl) (deep hd) rfl rfl rfl (by kernel_rfl) (o:=o157 w.params) (by kernel_rfl) rfl ⟨_,rfl⟩) (fun _=>Yg (Xh Xe)) fun _=> ?_
  refine ZR (KL (fn_c9 w g hg n) (arg rfl rfl) (.inl rfl) (deep hd) rfl rfl rfl (by kernel_rfl) (o:=o175 w.params) (by kernel_rfl) rfl ⟨_,rfl⟩) (fun _=>Yg (Xh Xe)) fun _=> ?_
  exact YT
noncomputable def UQ:Flow→Value
 | .ret v=>v
 |_=>.none
theorem KB{w:World}{g:Nat→Obj}{l:Bool}{V:List Addr}{A:Around}{a:Addr}{o:Obj}{fd:FuncData}{body:List Stmt}{args:List Value}{kw:List (Str×Value)}{binds:List (Str×Value)}{ρb ρf:List (Str×PV)}{X:Shared→Prop}{s:Shared}{Q E:Value→Shared→Prop}
(hh:A.handled=none)(hroom:A.depth<recursionLimit)(B:Base w g s)(hV:Yd V s.heap)(ho:s.heap.get? a=some o)(hd:o.data= .func fd)(hcd:s.heap.CodeRec fd.code fd.qualname)
(hbody:fd.body= .stmts body)(hbind:BindsTo s fd ⟨args,kw⟩ binds)(hcell:(fd.scope.names.all fun x=>x.2 != .cell)=true)(hloc:∀x∈binds,fd.scope.names.lookup x.1=some .local)
(hgl:fd.globals=mainGlobals)(hbl:fd.builtins=builtinsNs)(hco:fd.scope.isCoroutine=false)(hgen:fd.scope.isGenerator=false)(hk:fd.scope.kind= .function)
(hb:∀x q,ρb.lookup x=some q→∃v,binds.reverse.lookup x=some v∧Rep V s.heap q v)
(hf:∀x q,ρf.lookup x=some q→fd.scope.names.lookup x=some .free∧∃c v,fd.closure.lookup x=some c∧s.heap.IsCell c (some v)∧Rep V s.heap q v)
(hcl:∀x c,fd.closure.lookup x=some c→439≤c∧∃v,s.heap.IsCell c v)(hap:∀x y c,fd.closure.lookup x=some c→fd.closure.lookup y=some c→x=y)
(hX:∀s₁ s',X s₁→KpF l (s.heap.objs.size::fd.closure.map (fun x:Str×Addr=>x.2)) s₁ s'→X s')(hXs:X s)
(h:∀(s₁:Shared) (kw':Kp false s s₁) (htk:s₁.toks=s.toks+binds.length),Cx.St (Cx.wr {w:=w,g:=g,A:=A.deeper (callEnv fd s.heap.objs.size a),env:=callEnv fd s.heap.objs.size a,ρ:=[],lam:=l,V:=V,X:=X,hX:=hX,hh:=hh,kind:=hk,globs:=hgl,blts:=hbl,ground:=Xs w g} (ρb++ρf)) s₁→
   wpAny (model pw w) (A.deeper (callEnv fd s.heap.objs.size a)) (execs body (callEnv fd s.heap.objs.size a)) (fun f s'=>Q (UQ f) s')
    (fun e s'=>wpAny (model pw w) (A.deeper (callEnv fd s.heap.objs.size a)) (leaving (callEnv fd s.heap.objs.size a) e) (fun _ s''=>E e s'') (fun e' s''=>E e' s'') s') s₁):
 codeAny (model pw w) A (.call (.ref a) ⟨args,kw⟩) (fun r s'=>match r with | .ok (.ret v)=>Q v s' | .ok _=>False | .error e=>E e s') s:=by
 refine(codeAny_call_def (fd:=fd) hroom ho hd B.nolimit hcd hbody hbind (fun x hx=>by have:=List.all_eq_true.mp hcell x hx;simpa using this) hloc (fun h₀ hns hk0=> ?_) hco hgen hk)
 have k:Kp false s {s with heap:=h₀,toks:=s.toks+binds.length}:=⟨h₀,_,rfl,fun b o _ e=>hk0 b o e⟩
 refine wpAny_mono (h _ k rfl ⟨B.kp k,⟨⟨_,hns,fun x pv hx hkx=> ?_⟩,fun x pv hx hkx=> ?_,B.size,fun x c hx=> ?_,hV.kp k,hap⟩,hX _ _ hXs ?_⟩) (fun f s' q=>by cases f<;>exact q) fun e s' q=>q
 ·have hx:(ρb++ρf).lookup x=some pv:=hx
  rw[List.lookup_append]at hx
  cases hq:ρb.lookup x with
  |some p=>
   rw[hq]at hx
   obtain rfl:p=pv:=by simpa using hx
   obtain⟨v,hv,hr⟩:=hb x p hq
   exact⟨v,hv,hr.kp k⟩
  |none=>
   rw[hq]at hx
   have hx':ρf.lookup x=some pv:=by simpa using hx
   have h1:=(hf x pv hx').1
   have h2:fd.scope.names.lookup x=some .local:=hkx
   rw[h1]at h2;cases h2
 ·have hx:(ρb++ρf).lookup x=some pv:=hx
  rw[List.lookup_append]at hx
  cases hq:ρb.lookup x with
  |some p=>
   obtain⟨v,hv,_⟩:=hb x p hq
   have h1:fd.scope.names.lookup x=some .local:=by
    have:=mem_of_lookup hv
    exact hloc _ (List.mem_reverse.mp this)
   rcases hkx with e |e<;>(have e':fd.scope.names.lookup x=_:=e;rw[h1]at e';cases e')
  |none=>
   rw[hq]at hx
   have hx':ρf.lookup x=some pv:=by simpa using hx
   obtain⟨_,c,v,hc,⟨oc,hoc,hdc⟩,hr⟩:=hf x pv hx'
   exact⟨c,v,hc,Xv (hcl x c hc).1,⟨oc,hk0 _ _ hoc,hdc⟩,hr.kp k⟩
 ·obtain⟨h1,v,oc,hoc,hdc⟩:=hcl x c hx
  exact⟨h1,v,oc,hk0 _ _ hoc,hdc⟩
 ·exact⟨h₀,_,rfl,fun b o _ _ e=>hk0 b o e⟩
theorem Zh{w:World}{g:Nat→Obj}{l:Bool}{V:List Addr}{A:Around}{a:Addr}{o:Obj}{fd:FuncData}{body:List Stmt}{args:List Value}{kw:List (Str×Value)}{binds:List (Str×Value)}{ρb ρf:List (Str×PV)}{X:Shared→Prop}{s:Shared}{Q E:Value→Shared→Prop}
(hh:A.handled=none)(hroom:A.depth<recursionLimit)(B:Base w g s)(hV:Yd V s.heap)(ho:s.heap.get? a=some o)(hd:o.data= .func fd)(hcd:s.heap.CodeRec fd.code fd.qualname)
(hbody:fd.body= .stmts body)(hbind:BindsTo s fd ⟨args,kw⟩ binds)(hcell:(fd.scope.names.all fun x=>x.2 != .cell)=true)(hloc:∀x∈binds,fd.scope.names.lookup x.1=some .local)
(hgl:fd.globals=mainGlobals)(hbl:fd.builtins=builtinsNs)(hco:fd.scope.isCoroutine=false)(hgen:fd.scope.isGenerator=false)(hk:fd.scope.kind= .function)
(hb:∀x q,ρb.lookup x=some q→∃v,binds.reverse.lookup x=some v∧Rep V s.heap q v)
(hf:∀x q,ρf.lookup x=some q→fd.scope.names.lookup x=some .free∧∃c v,fd.closure.lookup x=some c∧s.heap.IsCell c (some v)∧Rep V s.heap q v)
(hcl:∀x c,fd.closure.lookup x=some c→439≤c∧∃v,s.heap.IsCell c v)(hap:∀x y c,fd.closure.lookup x=some c→fd.closure.lookup y=some c→x=y)
(hX:∀s₁ s',X s₁→KpF l (s.heap.objs.size::fd.closure.map (fun x:Str×Addr=>x.2)) s₁ s'→X s')(hXs:X s)
(h:∀(s₁:Shared) (kw':Kp false s s₁) (htk:s₁.toks=s.toks+binds.length),Cx.St (Cx.wr {w:=w,g:=g,A:=A.deeper (callEnv fd s.heap.objs.size a),env:=callEnv fd s.heap.objs.size a,ρ:=[],lam:=l,V:=V,X:=X,hX:=hX,hh:=hh,kind:=hk,globs:=hgl,blts:=hbl,ground:=Xs w g} (ρb++ρf)) s₁→
   wpAny (model pw w) (A.deeper (callEnv fd s.heap.objs.size a)) (execs body (callEnv fd s.heap.objs.size a)) (fun f s'=>Q (UQ f) s')
    (fun e s'=>wpAny (model pw w) (A.deeper (callEnv fd s.heap.objs.size a)) (leaving (callEnv fd s.heap.objs.size a) e) (fun _ s''=>E e s'') (fun e' s''=>E e' s'') s') s₁):
 wpAny (model pw w) A (PySem.call (.ref a) args kw) Q E s:=
 wpAny_call (KB hh hroom B hV ho hd hcd hbody hbind hcell hloc hgl hbl hco hgen hk hb hf hcl hap hX hXs h)
theorem bindL_eq{kindOf:Str→Option NameKind}:∀(binds:List (Str×Value)) (m:Str→Option Value) (x:Str),kindOf x=some .local→bindL kindOf binds m x=(binds.reverse.lookup x).or (m x)
 | [],m,x,h=>by simp[bindL]
 | (n,v)::r,m,x,h=>by
   rw[bindL,bindL_eq r _ x h,List.reverse_cons,List.lookup_append]
   cases hr:r.reverse.lookup x with
   |some u=>rfl
   |none=>
    by_cases hx:x=n
    ·subst hx;simp[h,List.lookup_cons]
    ·have:(x==n)=false:=by simpa using hx
     simp only[Option.none_or,List.lookup_cons,this,List.lookup_nil,Option.or_none]
     split<;>simp[hx]
theorem bindC_eq{kindOf:Str→Option NameKind}:∀(binds:List (Str×Value)) (m:Str→Option Value) (x:Str),kindOf x≠some .local→bindC kindOf binds m x=(binds.reverse.lookup x).or (m x)
 | [],m,x,h=>by simp[bindC]
 | (n,v)::r,m,x,h=>by
   rw[bindC,bindC_eq r _ x h,List.reverse_cons,List.lookup_append]
   cases hr:r.reverse.lookup x with
   |some u=>rfl
   |none=>
    by_cases hx:x=n
    ·subst hx;simp[h,List.lookup_cons]
    ·have:(x==n)=false:=by simpa using hx
     simp only[Option.none_or,List.lookup_cons,this,List.lookup_nil,Option.or_none]
     split<;>simp[hx]
theorem JC:∀(names:List (Str×NameKind)) (n m:Nat) (acc acc':List (Str×Addr)) (x:Str),((acc.lookup x).isSome=(acc'.lookup x).isSome)→((cellsFrom n names acc).lookup x).isSome=((cellsFrom m names acc').lookup x).isSome
 | [],n,m,acc,acc',x,h=>h
 | (y,k)::r,n,m,acc,acc',x,h=>by
   rw[cellsFrom,cellsFrom]
   split
   ·refine JC r _ _ _ _ x ?_
    rw[List.lookup_cons,List.lookup_cons]
    cases x==y<;>simp[h]
   ·exact JC r _ _ _ _ x h
theorem ZF{w:World}{g:Nat→Obj}{l:Bool}{V:List Addr}{A:Around}{a:Addr}{o:Obj}{fd:FuncData}{body:List Stmt}{args:List Value}{binds:List (Str×Value)}{ρb:List (Str×PV)}{X:Shared→Prop}{s:Shared}{Q E:Value→Shared→Prop}
(hh:A.handled=none)(hroom:A.depth<recursionLimit)(B:Base w g s)(hV:Yd V s.heap)(ho:s.heap.get? a=some o)(hd:o.data= .func fd)(hcd:s.heap.CodeRec fd.code fd.qualname)
(hbody:fd.body= .stmts body)(hbind:bindArgs fd ⟨args,[]⟩=pure binds)(hclo:fd.closure=[])(hloc:∀x∈binds,fd.scope.names.lookup x.1=some .local∨(fd.scope.names.lookup x.1=some .cell∧((cellsFrom 0 fd.scope.names []).lookup x.1).isSome=true))
(hgl:fd.globals=mainGlobals)(hbl:fd.builtins=builtinsNs)(hco:fd.scope.isCoroutine=false)(hgen:fd.scope.isGenerator=false)(hk:fd.scope.kind= .function)
(hb:∀x q,ρb.lookup x=some q→∃v,binds.reverse.lookup x=some v∧Rep V s.heap q v)
(hX:∀s₁ s',X s₁→KpF l (s.heap.objs.size::(cellsFrom (s.heap.objs.size+1) fd.scope.names []).map (fun x:Str×Addr=>x.2)) s₁ s'→X s')(hXs:X s)
(h:∀(s₁:Shared) (kw':Kp false s s₁),(∀x c,(x,c)∈cellsFrom (s.heap.objs.size+1) fd.scope.names []→s.heap.objs.size<c)→Cx.St (Cx.wr {w:=w,g:=g,A:=A.deeper (callEnvC fd s.heap.objs.size a),env:=callEnvC fd s.heap.objs.size a,ρ:=[],lam:=l,V:=V,X:=X,hX:=hX,hh:=hh,kind:=hk,globs:=hgl,blts:=hbl,ground:=Xs w g} ρb) s₁→
   wpAny (model pw w) (A.deeper (callEnvC fd s.heap.objs.size a)) (execs body (callEnvC fd s.heap.objs.size a)) (fun f s'=>Q (UQ f) s')
    (fun e s'=>wpAny (model pw w) (A.deeper (callEnvC fd s.heap.objs.size a)) (leaving (callEnvC fd s.heap.objs.size a) e) (fun _ s''=>E e s'') (fun e' s''=>E e' s'') s') s₁):
 wpAny (model pw w) A (PySem.call (.ref a) args) Q E s:=by
 refine wpAny_call (codeAny_call_cells (fd:=fd) hroom ho hd B.nolimit hcd hbody hbind hclo (fun x hx=> ?_) (fun s₁ I=> ?_) hco hgen hk)
 ·rcases hloc x hx with q | ⟨q,r⟩
  ·exact .inl q
  ·exact .inr ⟨q,by rw[JC fd.scope.names _ 0 [] [] x.1 rfl];exact r⟩
 ·obtain⟨h₀,tk,rfl,hk0⟩:=I.done
  have k:Kp false s {s with heap:=h₀,toks:=tk}:=⟨h₀,_,rfl,fun b o _ e=>hk0 b o e⟩
  refine wpAny_mono (h _ k I.above ⟨B.kp k,⟨⟨_,I.toInCall.ns,fun x pv hx hkx=> ?_⟩,fun x pv hx hkx=> ?_,B.size,fun x c hx=> ?_,hV.kp k,fun x y c hx hy=>name_of_addr I.apart (mem_of_lookup hx) (mem_of_lookup hy)⟩,hX _ _ hXs ?_⟩) (fun f s' q=>by cases f<;>exact q) fun e s' q=>q
  ·obtain⟨v,hv,hr⟩:=hb x pv hx
   exact⟨v,by rw[bindL_eq _ _ _ (show(callEnvC fd s.heap.objs.size a).kindOf x=some .local from hkx),hv];rfl,hr.kp k⟩
  ·obtain⟨v,hv,hr⟩:=hb x pv hx
   have hm:=mem_of_lookup hv
   have hcell:fd.scope.names.lookup x=some .cell∧((cellsFrom 0 fd.scope.names []).lookup x).isSome=true:=by
    rcases hloc _ (List.mem_reverse.mp hm)with q |q
    ·rcases hkx with e |e<;>(have e':fd.scope.names.lookup x=_:=e;have q':fd.scope.names.lookup x=_:=q;rw[q']at e';cases e')
    ·exact q
   have hs1:((cellsFrom (s.heap.objs.size+1) fd.scope.names []).lookup x).isSome=true:=by rw[JC fd.scope.names _ 0 [] [] x rfl];exact hcell.2
   obtain⟨c,hc⟩:=Option.isSome_iff_exists.mp hs1
   have hi:=I.cell x c hc
   have hne:(callEnvC fd s.heap.objs.size a).kindOf x≠some .local:=fun e=>by
    have e':fd.scope.names.lookup x=some .local:=e
    rw[hcell.1]at e';cases e'
   rw[bindC_eq _ _ _ hne,hv]at hi
   exact⟨c,v,hc,Xv (Nat.le_trans B.size (Nat.le_of_lt (I.above x c (mem_of_lookup hc)))),hi,hr.kp k⟩
  ·exact⟨Nat.le_trans B.size (Nat.le_of_lt (I.above x c (mem_of_lookup hx))),_,I.cell x c hx⟩
  ·exact⟨h₀,_,rfl,fun b o _ _ e=>hk0 b o e⟩
theorem fn_cells{l:Bool}{w:World}{g:Nat→Obj}{n:Nat}{fd:FuncData}{body:List Stmt}{a c':Addr}{o oc:Obj}{cvs:Array Value}{ct:Tok}{ns:List Str}{ps:List PV}{r:PV}
(ho:(S35 w g).heap.get? a=some o)(ha:Xp a=false)(hd:o.data= .func fd)(hcode:fd.code= .ref c')
(hoc:(S35 w g).heap.get? c'=some oc)(hc':Xp c'=false)(hdc:oc.data= .fields cvs)(hcn:cvs[1]? =some (.str fd.qualname ct))(hbody:fd.body= .stmts body)
(hbind:∀vs:List Value,vs.length=ps.length→bindArgs fd ⟨vs,[]⟩=pure (ns.zip vs))(hclo:fd.closure=[])
(hloc:(ns.all fun x=>decide (fd.scope.names.lookup x=some .local)||(decide (fd.scope.names.lookup x=some .cell)&&((cellsFrom 0 fd.scope.names []).lookup x).isSome))=true)
(hgl:fd.globals=mainGlobals)(hbl:fd.builtins=builtinsNs)(hco:fd.scope.isCoroutine=false)(hgen:fd.scope.isGenerator=false)(hk:fd.scope.kind= .function)
(h:∀(V:List Addr) (A:Around) (L:Addr) (hh:(A.deeper (callEnvC fd L a)).handled=none),439≤L→A.depth+(n+1)<recursionLimit→
   XU (Cx.wr {w:=w,g:=g,A:=A.deeper (callEnvC fd L a),env:=callEnvC fd L a,ρ:=[],lam:=l,V:=V,X:=fun _=>True,hX:=fun _ _ _ _=>trivial,hh:=hh,kind:=hk,globs:=hgl,blts:=hbl,ground:=Xs w g} (ns.zip ps).reverse) body (.ret r)):
 FnOk w g l (n+1) (.ref a) ps r:=fun A hh hdep V s vs B hV hr=>by
 refine ZF (l:=l) (ρb:=(ns.zip ps).reverse) (X:=fun _=>True) hh (by lia) B hV (B.1 _ _ ha ho) hd ⟨c',oc,cvs,ct,hcode,B.1 _ _ hc' hoc,hdc,hcn⟩ hbody (hbind vs hr.length) hclo (fun x hx=> ?_) hgl hbl hco hgen hk (fun x q hx=> ?_) (fun _ _ _ _=>trivial) trivial (fun s₁ k hab st=> ?_)
 ·have h1:x.1∈ns:=(List.of_mem_zip (a:=x.1) (b:=x.2) hx).1
  have h2:=List.all_eq_true.mp hloc _ h1
  rw[Bool.or_eq_true,Bool.and_eq_true]at h2
  rcases h2 with q | ⟨q,q'⟩
  ·exact .inl (of_decide_eq_true q)
  ·exact .inr ⟨of_decide_eq_true q,q'⟩
 ·exact XN (x:=x) (q:=q) hr (acc:=[]) (acc':=[]) (fun y q hq=>by simp at hq) x q hx
 ·refine wpAny_mono ((h V A s.heap.objs.size hh B.size hdep).go s₁ st) (fun f s' q=> ?_) fun _ _ x=>x.elim
  obtain⟨⟨v,rfl,hv⟩,k'⟩:=q
  refine⟨hv,?_⟩
  obtain⟨h1,t1,rfl,kk⟩:=k
  obtain⟨h',t',rfl,kk'⟩:=k'
  refine⟨h',t',rfl,fun b o n e=>kk' b o n (fun m=> ?_) (kk b o rfl e)⟩
  have hb:=Heap.lt_size e
  rcases List.mem_cons.mp m with q |q
  ·have:b=s.heap.objs.size:=q
   exact absurd this (Nat.ne_of_lt hb)
  ·obtain⟨y,hy,rfl⟩:=List.mem_map.mp q
   have:=hab y.1 y.2 hy
   exact absurd hb (Nat.not_lt.mpr (Nat.le_of_lt this))
noncomputable def fdOf(o:Obj):FuncData:=match o.data with | .func fd=>fd |_=>default
theorem UR{y:Str}{b:Addr}{cells:List (Str×Addr)}(h:cells.lookup y=some b):∀x a,([(y,b)]:List (Str×Addr)).lookup x=some a→cells.lookup x=some a:=fun x a hx=>by
 obtain⟨rfl,rfl⟩:=lk1 hx
 exact h
section
variable{c:Cx}
theorem YP{e:PySem.Expr}{p q:PV}(h:EvOk c e p)(hq:p=q):EvOk c e q:=hq▸h
theorem KN{y:Str}{q:PV}{b:Addr}{scope:Scope}(h:c.ρ.lookup y=some q)(h1:c.env.kindOf y=some .cell)(h2:∀C,(compEnvC scope [(y,b)] C c.env).kindOf y=some .cell):
 ∀x p,([(y,q)]:List (Str×PV)).lookup x=some p→c.ρ.lookup x=some p∧c.env.kindOf x=some .cell∧(∀C,(compEnvC scope [(y,b)] C c.env).kindOf x=some .cell)∧(([(y,b)]:List (Str×Addr)).lookup x).isSome=true:=fun x p hx=>by
 obtain⟨rfl,rfl⟩:=lk1 hx
 exact⟨h,h1,h2,by simp⟩
theorem Wk{cells:List (Str×Addr)}:∀x a,([]:List (Str×Addr)).lookup x=some a→cells.lookup x=some a:=fun x a h=>by simp at h
theorem no_cap{scope:Scope}:∀x p,([]:List (Str×PV)).lookup x=some p→c.ρ.lookup x=some p∧c.env.kindOf x=some .cell∧(∀C,(compEnvC scope [] C c.env).kindOf x=some .cell)∧(([]:List (Str×Addr)).lookup x).isSome=true:=fun x p h=>by simp at h
theorem Xo{x:Str}{pos' pos:Pos}{e:PySem.Expr}{ρ:List (Str×PV)}{rest:List Stmt}{o:Out}(p:PV)(h:EvOk (c.wr ρ) e p)(hk:Storable (c.wr ρ) x)(hs:swapsWith e (some (.Name x pos')) pos.line (c.wr ρ).env=pure false)
(hr:XU (c.wr ((x,p)::ρ)) rest o):XU (c.wr ρ) (.Assign [.Name x pos'] e pos::rest) o:=Yj (Jt h hk hs) hr
theorem Yq{a b:Nat}(h:0<b):KX c .Mod (.int a) (.int b) (.int ((a%b:Nat):Int)):=by
 have e:(a:Int).fmod b=((a%b:Nat):Int):=by rw[Int.fmod_eq_emod_of_nonneg _ (by lia)];lia
 rw[←e]
 exact bin_mod_int (by simp;lia)
theorem YD{a b:Nat}(h:0<b)(ha:a<2 ^ 60):KX c .FloorDiv (.int a) (.int b) (.int ((a/b:Nat):Int)):=by
 have e:(a:Int).fdiv b=((a/b:Nat):Int):=by rw[Int.fdiv_eq_ediv_of_nonneg _ (by lia)];lia
 rw[←e]
 refine bin_fdiv_int (by simp;lia) ?_
 have h1:(a:Int).natAbs.log2<60:=by
  rcases Nat.eq_zero_or_pos a with h0 |h0
  ·subst h0;decide
  ·rw[Int.natAbs_natCast];exact(Nat.log2_lt (by lia)).mpr ha
 unfold Builtin.divisionGoesByPylong
 have h2:∀m:Nat,(decide ((if((a:Int)==0)=true then 0 else(a:Int).natAbs.log2/30+1)>m+150))=false:=fun m=>by
  apply decide_eq_false
  split<;>lia
 show ¬(_&&decide ((if((a:Int)==0)=true then 0 else(a:Int).natAbs.log2/30+1)>_+150))=true
 rw[h2,Bool.and_false]
 exact Bool.false_ne_true
theorem ZU{l:List PV}{k:Nat}{p:PV}(hk:k<2 ^ 60)(hp:l[(k:Int).toNat]? =some p):KG c (.lst l) (.int k) p:=item_of_lst (Int.natCast_nonneg k) (Int.ofNat_lt.mpr (Nat.lt_trans hk (by decide:2 ^ 60<2 ^ 63))) hp
theorem at_nats{L:List Nat}{i:Nat}(h:i<L.length):(L.map fun k:Nat=>PV.int (k:Int))[(i:Int).toNat]? =some (.int ((L.getD i 0:Nat):Int)):=by
 rw[Int.toNat_natCast,List.getElem?_map,List.getElem?_eq_getElem h,List.getD_eq_getElem?_getD,List.getElem?_eq_getElem h];rfl
theorem at_strs{L:List Str}{i:Nat}(h:i<L.length):(L.map PV.str)[(i:Int).toNat]? =some (.str (L.getD i ⟨#[]⟩)):=by
 rw[Int.toNat_natCast,List.getElem?_map,List.getElem?_eq_getElem h,List.getD_eq_getElem?_getD,List.getElem?_eq_getElem h];rfl
end
noncomputable def Jk:List Nat:=[173,847,6150,6155,6156,6157,8203,8204,8205,8288,65279]++(List.range 16).map fun i=>65024+i
noncomputable def besN:List Nat:=[8208,12284,64975]
noncomputable def barN:List Nat:=[64976,65531,12280,8206,917569]
noncomputable def tabL:List Nat:=[4,6,7,8,9]
noncomputable def one(n:Nat):Str:=⟨#[n]⟩
noncomputable def sgL(n:Nat):List Str:=[Str.ofString "s",Str.ofString "S",Str.ofString "ſ",Str.ofString "𝐒",Str.ofString "t",Str.ofString "T",Str.ofString "𝐓",Str.ofString "ﬆ",Str.ofString "ß",one (Jk.getD (n%27) 0)]++
 [Str.ofString "\"",Str.ofString "\\",Str.ofString " ",one (besN.getD (n%3) 0),one (barN.getD (n%5) 0),Str.ofString "\t"]
noncomputable def mnL(n:Nat):List Str:=[Str.ofString "s",Str.ofString "s",Str.ofString "s",Str.ofString "s",Str.ofString "t",Str.ofString "t",Str.ofString "t",Str.ofString "st",Str.ofString "ss",Str.ofString ""]++
 [Str.ofString "\"",Str.ofString "\\",Str.ofString " ",one (besN.getD (n%3) 0),one (barN.getD (n%5) 0),Str.ofString "\t"]
noncomputable def Xg(x:Nat):List Nat:=[x%16,x/16%16,x/256%16]
noncomputable def sgAt(n k:Nat):Str:=(sgL n).getD k ⟨#[]⟩
noncomputable def mnAt(n k:Nat):Str:=(mnL n).getD k ⟨#[]⟩
noncomputable def spell(x:Nat):Str:=cat ((Xg x).map (sgAt (x/4096)))
noncomputable def XR(x:Nat):List Str:=(Xg x).map (mnAt (x/4096))
noncomputable def Jr(x:Nat):Nat:=tabL.getD (x/4096%5) 0
noncomputable def Xw(x:Nat):PV:=.tup [.str (spell x),.lst ((XR x).map .str),.lst ((Xg x).map fun k:Nat=>.int (k:Int)),.int (Jr x:Nat)]
noncomputable def toN:PV→Nat
 | .int i=>i.toNat
 |_=>0
theorem sg_short(n k:Nat):(sgAt n k).length≤1:=by
 unfold sgAt
 rw[List.getD_eq_getElem?_getD]
 cases h:(sgL n)[k]? with
 |none=>exact Nat.zero_le _
 |some y=>
  have hm:y∈sgL n:=List.mem_of_getElem? h
  have hall:∀y∈sgL n,y.length≤1:=by
   intro y hy
   unfold sgL at hy
   simp only[List.mem_append,List.mem_cons,List.not_mem_nil,or_false]at hy
   rcases hy with(rfl |rfl |rfl |rfl |rfl |rfl |rfl |rfl |rfl |rfl) | (rfl |rfl |rfl |rfl |rfl |rfl)<;>first |exact Nat.le_refl 1 |decide
  exact hall y hm
section
variable{c:Cx}
theorem all_consts{α:Type}{K:α→Const}{P:α→PV}{pos:Pos}(hP:∀a q,EvOk c (.Constant (K a) 0 q) (P a)):∀(ns:List α) (es:List PySem.Expr),ns.length=es.length→YK c pos (List.zipWith (fun a e=>.Constant (K a) 0 e.pos) ns es) (ns.map P)
 | [],[],_=>Xd
 |n::ns,e::es,h=>Xc (hP n e.pos) (all_consts hP ns es (Nat.succ.inj h)) rfl
 | [],_::_,h=>nomatch h
 |_::_,[],h=>nomatch h
theorem ev_consts{α:Type}{K:α→Const}{P:α→PV}{pos:Pos}(hP:∀a q,EvOk c (.Constant (K a) 0 q) (P a)){ns:List α}{es:List PySem.Expr}(h:es=List.zipWith (fun a e=>.Constant (K a) 0 e.pos) ns es)(hl:(ns.length==es.length&&Nat.ble ns.length sizeLine)=true):EvOk c (.List es pos) (.lst (ns.map P)):=by
 obtain⟨h1,h2⟩:=Bool.and_eq_true_iff.mp hl
 rw[h]
 exact JA (all_consts hP ns es (eq_of_beq h1)) (by rw[List.length_map];exact Nat.le_of_ble_eq_true h2)
theorem KR{pos:Pos}{es:List PySem.Expr}(ns:List Nat)(h:es=List.zipWith (fun n e=>.Constant (.int (n:Nat)) 0 e.pos) ns es)(hl:(ns.length==es.length&&Nat.ble ns.length sizeLine)=true):EvOk c (.List es pos) (.lst (ns.map fun k:Nat=>PV.int (k:Int))):=ev_consts (K:=fun n:Nat=>.int n) (fun _ _=>Xe) h hl
theorem Kn{L:List Nat}{i n:Nat}(h:i<n)(hn:(L.length==n&&Nat.ble n (2 ^ 60))=true):KG c (.lst (L.map fun k:Nat=>PV.int (k:Int))) (.int i) (.int ((L.getD i 0:Nat):Int)):=by
 obtain⟨h1,h2⟩:=Bool.and_eq_true_iff.mp hn
 exact ZU (Nat.lt_of_lt_of_le h (Nat.le_of_ble_eq_true h2)) (at_nats (eq_of_beq h1▸h))
end
local macro_rules | `(tactic|walk_at "Ev")=> `(tactic|first
 |exact Xe
 |exact XK
 |exact YI
 |exact JB
 |exact Xa rfl rfl rfl rfl
 |exact Xm (v:=.builtin _) rfl (by kernel_rfl) (by kernel_rfl) rfl
 |exact Xm (v:=.type _) rfl (by kernel_rfl) (by kernel_rfl) rfl
 |exact XA (v:=.ref _) rfl (by kernel_rfl) rfl
 |exact Xd
 | (refine Xc ?_ ?_ rfl<;>walk_at "Ev")
 | (refine XI ?_ ?_ ?_<;>walk_at "Ev")
 | (refine ZW ?_ ?_ ?_ rfl<;>walk_at "Ev")
 | (refine Yp ?_ (by decide)<;>walk_at "Ev")
 |skip)
theorem codes_eq:PV.lst ((([173,847,6150,6155,6156,6157,8203,8204,8205,8288,65279]:List Nat).map fun k:Nat=>PV.int (k:Int))++(List.range 16).map fun i=>.int ((65024+i:Nat):Int))= .lst (Jk.map fun k:Nat=>.int (k:Int)):=by kernel_rfl
theorem fn_name(w:World)(g:Nat→Obj)(x:Nat)(hx:x<2211840):FnOk w g false 1 (.ref 404) [.int x] (Xw x):=by
 refine fn_cells (n:=0) (fd:=fdOf (o404 w.params)) (body:=fdB (stN 30)) (a:=404) (c':=403) (ns:=["x"]) (o:=o404 w.params) (oc:=o403 w.params) (cvs:=Xn (o403 w.params)) (ct:=3016) (by kernel_rfl) rfl (by kernel_rfl) (by kernel_rfl) (by kernel_rfl) rfl (by kernel_rfl) (by kernel_rfl) (by kernel_rfl) ?_ (by kernel_rfl) (by kernel_rfl) (by kernel_rfl) (by kernel_rfl) (by kernel_rfl) (by kernel_rfl) (by kernel_rfl) ?_
 ·intro vs hv
  obtain⟨v,rfl⟩:=len1 hv
  kernel_rfl
 ·intro V A L hh hL hd
  conv=>arg 2;whnf
  have h3:∀m:Nat,0<m→x/4096%m<m:=fun m h=>Nat.mod_lt _ h
  have hbes:besN.getD (x/4096%3) 0≤1114111:=(by decide +kernel:∀i:Nat,i<3→besN.getD i 0≤1114111) _ (h3 3 (by decide))
  have hbar:barN.getD (x/4096%5) 0≤1114111:=(by decide +kernel:∀i:Nat,i<5→barN.getD i 0≤1114111) _ (h3 5 (by decide))
  have hcod:Jk.getD (x/4096%27) 0≤1114111:=(by decide +kernel:∀i:Nat,i<27→Jk.getD i 0≤1114111) _ (h3 27 (by decide))
  have hx60:x<2 ^ 60:=Nat.lt_trans hx (by decide)
  refine Xo (.int (x/4096:Nat)) ?_ (.inl rfl) rfl ?_
  ·exact XI (Xa rfl rfl rfl rfl) (q:=.int (4096:Nat)) Xe (YD (by decide) hx60)
  refine Xo (.lst (([173,847,6150,6155,6156,6157,8203,8204,8205,8288,65279]:List Nat).map fun k:Nat=>.int (k:Int))) ?_ (.inl rfl) rfl ?_
  ·exact KR _ (by kernel_rfl) (by kernel_rfl)
  refine Xo (.lst (Jk.map fun k:Nat=>.int (k:Int))) ?_ (.inl rfl) rfl ?_
  ·refine YP ?_ codes_eq
   refine XI (p:=.lst (([173,847,6150,6155,6156,6157,8203,8204,8205,8288,65279]:List Nat).map fun k:Nat=>.int (k:Int))) (q:=.lst ((List.range 16).map fun i=>.int ((65024+i:Nat):Int))) (Xa rfl rfl rfl rfl) ?_ (Jg (by decide +kernel))
   refine ev_list_range (a:=65024) (n:=16) ?_ ?_ Xe Xe rfl rfl (by decide)
   ·walk_at "Ev"
   ·walk_at "Ev"
  refine Xo (.str (one (besN.getD (x/4096%3) 0))) ?_ (.inl rfl) rfl ?_
  ·refine XQ (fv:=.builtin "chr") (ps:=[.int (besN.getD (x/4096%3) 0:Nat)]) ?_ (Xc ?_ Xd rfl) rfl (.inl ⟨_,rfl⟩) (UY hbes)
   ·walk_at "Ev"
   ·refine XY (p:=.lst (besN.map fun k:Nat=>.int (k:Int))) (q:=.int (x/4096%3:Nat)) (KR besN (by kernel_rfl) (by kernel_rfl)) ?_ (Kn (h3 3 (by decide)) (by kernel_rfl)) rfl
    exact XI (p:=.int (x/4096:Nat)) (Xa rfl rfl rfl rfl) (q:=.int (3:Nat)) Xe (Yq (by decide))
  refine Xo (.str (one (barN.getD (x/4096%5) 0))) ?_ (.inl rfl) rfl ?_
  ·refine XQ (fv:=.builtin "chr") (ps:=[.int (barN.getD (x/4096%5) 0:Nat)]) ?_ (Xc ?_ Xd rfl) rfl (.inl ⟨_,rfl⟩) (UY hbar)
   ·walk_at "Ev"
   ·refine XY (p:=.lst (barN.map fun k:Nat=>.int (k:Int))) (q:=.int (x/4096%5:Nat)) (KR barN (by kernel_rfl) (by kernel_rfl)) ?_ (Kn (h3 5 (by decide)) (by kernel_rfl)) rfl
    exact XI (p:=.int (x/4096:Nat)) (Xa rfl rfl rfl rfl) (q:=.int (5:Nat)) Xe (Yq (by decide))
  refine Xo (.lst (((sgL (x/4096)).take 10).map PV.str)) ?_ (.inr ⟨rfl,rfl⟩) rfl ?_
  ·refine YP (p:=.lst [.str (Str.ofString "s"),.str (Str.ofString "S"),.str (Str.ofString "ſ"),.str (Str.ofString "𝐒"),.str (Str.ofString "t"),.str (Str.ofString "T"),.str (Str.ofString "𝐓"),.str (Str.ofString "ﬆ"),.str (Str.ofString "ß"),.str (one (Jk.getD (x/4096%27) 0))]) ?_ (by kernel_rfl)
   refine JA ?_ (show 10≤sizeLine by decide +kernel)
   iterate 9 refine Xc XK ?_ rfl
   refine Xc ?_ Xd rfl
   refine XQ (fv:=.builtin "chr") (ps:=[.int (Jk.getD (x/4096%27) 0:Nat)]) ?_ (Xc ?_ Xd rfl) rfl (.inl ⟨_,rfl⟩) (UY hcod)
   ·walk_at "Ev"
   ·refine XY (p:=.lst (Jk.map fun k:Nat=>.int (k:Int))) (q:=.int (x/4096%27:Nat)) (Xa rfl rfl rfl rfl) ?_ (Kn (h3 27 (by decide)) (by kernel_rfl)) rfl
    exact XI (p:=.int (x/4096:Nat)) (Xa rfl rfl rfl rfl) (q:=.int (27:Nat)) Xe (Yq (by decide))
  refine Xo (.lst ((sgL (x/4096)).map PV.str)) ?_ (.inr ⟨rfl,rfl⟩) rfl ?_
  ·refine YP (p:=.lst (((sgL (x/4096)).take 10).map PV.str++[.str (Str.ofString "\""),.str (Str.ofString "\\"),.str (Str.ofString " "),.str (one (besN.getD (x/4096%3) 0)),.str (one (barN.getD (x/4096%5) 0)),.str (Str.ofString "\t")])) ?_ (by kernel_rfl)
   refine XI (Xa rfl rfl rfl rfl) ?_ (Jg (by rw[List.length_map,List.length_take];exact Nat.le_trans (Nat.add_le_add_right (Nat.min_le_left _ _) _) (by decide +kernel:(10+6≤sizeLine))))
   refine JA ?_ (show 6≤sizeLine by decide +kernel)
   iterate 3 refine Xc XK ?_ rfl
   iterate 2 refine Xc (Xa rfl rfl rfl rfl) ?_ rfl
   exact Xc XK Xd rfl
  refine Xo (.lst (((mnL (x/4096)).take 10).map PV.str)) ?_ (.inr ⟨rfl,rfl⟩) rfl ?_
  ·refine YP (p:=.lst [.str (Str.ofString "s"),.str (Str.ofString "s"),.str (Str.ofString "s"),.str (Str.ofString "s"),.str (Str.ofString "t"),.str (Str.ofString "t"),.str (Str.ofString "t"),.str (Str.ofString "st"),.str (Str.ofString "ss"),.str (Str.ofString "")]) ?_ (by kernel_rfl)
   refine JA ?_ (show 10≤sizeLine by decide +kernel)
   iterate 10 refine Xc XK ?_ rfl
   exact Xd
  refine Xo (.lst ((mnL (x/4096)).map PV.str)) ?_ (.inr ⟨rfl,rfl⟩) rfl ?_
  ·refine YP (p:=.lst (((mnL (x/4096)).take 10).map PV.str++[.str (Str.ofString "\""),.str (Str.ofString "\\"),.str (Str.ofString " "),.str (one (besN.getD (x/4096%3) 0)),.str (one (barN.getD (x/4096%5) 0)),.str (Str.ofString "\t")])) ?_ (by kernel_rfl)
   refine XI (Xa rfl rfl rfl rfl) ?_ (Jg (by rw[List.length_map,List.length_take];exact Nat.le_trans (Nat.add_le_add_right (Nat.min_le_left _ _) _) (by decide +kernel:(10+6≤sizeLine))))
   refine JA ?_ (show 6≤sizeLine by decide +kernel)
   iterate 3 refine Xc XK ?_ rfl
   iterate 2 refine Xc (Xa rfl rfl rfl rfl) ?_ rfl
   exact Xc XK Xd rfl
  refine Xo (.lst ((Xg x).map fun k:Nat=>.int (k:Int))) ?_ (.inl rfl) rfl ?_
  ·refine YP (p:=.lst [.int (x%16:Nat),.int (x/16%16:Nat),.int (x/256%16:Nat)]) ?_ rfl
   refine JA ?_ (show 3≤sizeLine by decide +kernel)
   refine Xc ?_ (Xc ?_ (Xc ?_ Xd rfl) rfl) rfl
   ·exact XI (p:=.int (x:Nat)) (Xa rfl rfl rfl rfl) (q:=.int (16:Nat)) Xe (Yq (by decide))
   ·exact XI (p:=.int (x/16:Nat)) (XI (p:=.int (x:Nat)) (Xa rfl rfl rfl rfl) (q:=.int (16:Nat)) Xe (YD (by decide) hx60)) (q:=.int (16:Nat)) Xe (Yq (by decide))
   ·exact XI (p:=.int (x/256:Nat)) (XI (p:=.int (x:Nat)) (Xa rfl rfl rfl rfl) (q:=.int (256:Nat)) Xe (YD (by decide) hx60)) (q:=.int (16:Nat)) Xe (Yq (by decide))
  have hk16:∀k∈Xg x,k<16:=fun k hk=>by
   rcases mem3 hk with rfl |rfl |rfl<;>exact Nat.mod_lt _ (by decide)
  have hlen:∀f:Nat→Str,∀l:List Nat,((l.map fun k:Nat=>PV.int (k:Int)).filter fun _=>true).map (fun p=>PV.str (f (toN p)))=(l.map f).map PV.str:=fun f l=>by
   rw[List.filter_eq_self.mpr (fun _ _=>rfl),List.map_map,List.map_map]
   rfl
  refine Xo (.str (spell x)) ?_ (.inl rfl) rfl ?_
  ·refine UG (xs:=(Xg x).map (sgAt (x/4096))) XK ?_ rfl rfl rfl ?_
   ·rw[←hlen]
    refine Jf (by kernel_rfl) [("signs",L+1)] [("signs",.lst ((sgL (x/4096)).map PV.str))] (fun _=>true) (fun p=>PV.str (sgAt (x/4096) (toN p))) (YF (Xa rfl rfl rfl rfl) YX) ?_ rfl (by kernel_rfl) (by kernel_rfl) rfl (fun _=>rfl) (UR rfl) (KN rfl rfl fun _=>rfl) ?_
    ·rw[List.length_map];exact(by decide +kernel:(3≤sizeLine))
    ·intro C V' hC i p hp
     obtain⟨k,hk,rfl⟩:∃k∈Xg x,p= .int (k:Int):=by
      rw[List.getElem?_map]at hp
      obtain⟨k,hk,rfl⟩:=Option.map_eq_some_iff.mp hp
      exact⟨k,List.mem_of_getElem? hk,rfl⟩
     refine⟨[("kind",.int (k:Int))],YW rfl,ZQ,fun _=> ?_⟩
     exact XY (p:=.lst ((sgL (x/4096)).map PV.str)) (q:=.int (k:Int)) (Xa rfl rfl rfl rfl) (Xa rfl rfl rfl rfl) (ZU (Nat.lt_trans (hk16 k hk) (by decide)) (at_strs (by exact hk16 k hk))) rfl
   ·rw[List.length_map]
    have h1:∀l:List Nat,((l.map (sgAt (x/4096))).map (·.length)).sum≤l.length:=fun l=>by
     induction l with
     |nil=>exact Nat.le_refl _
     |cons a l ih=>exact Nat.le_trans (Nat.add_le_add (sg_short (x/4096) a) ih) (Nat.le_of_eq (Nat.add_comm 1 _))
    exact Nat.le_trans (Nat.add_le_add_right (h1 (Xg x)) _) (show 3+3≤1048576 by decide)
  refine Ym (Xh ?_)
  refine Yp (ps:=[.str (spell x),.lst ((XR x).map .str),.lst ((Xg x).map fun k:Nat=>.int (k:Int)),.int (Jr x:Nat)]) ?_ (show 4≤sizeLine by decide +kernel)
  refine Xc (Xa rfl rfl rfl rfl) (Xc ?_ (Xc (Xa rfl rfl rfl rfl) (Xc ?_ Xd rfl) rfl) rfl) rfl
  ·show EvOk _ _ (.lst (((Xg x).map (mnAt (x/4096))).map PV.str))
   rw[←hlen]
   refine Jf (by kernel_rfl) [("meant",L+2)] [("meant",.lst ((mnL (x/4096)).map PV.str))] (fun _=>true) (fun p=>PV.str (mnAt (x/4096) (toN p))) (YF (Xa rfl rfl rfl rfl) YX) ?_ rfl (by kernel_rfl) (by kernel_rfl) rfl (fun _=>rfl) (UR rfl) (KN rfl rfl fun _=>rfl) ?_
   ·rw[List.length_map];exact(by decide +kernel:(3≤sizeLine))
   ·intro C V' hC i p hp
    obtain⟨k,hk,rfl⟩:∃k∈Xg x,p= .int (k:Int):=by
     rw[List.getElem?_map]at hp
     obtain⟨k,hk,rfl⟩:=Option.map_eq_some_iff.mp hp
     exact⟨k,List.mem_of_getElem? hk,rfl⟩
    refine⟨[("kind",.int (k:Int))],YW rfl,ZQ,fun _=> ?_⟩
    exact XY (p:=.lst ((mnL (x/4096)).map PV.str)) (q:=.int (k:Int)) (Xa rfl rfl rfl rfl) (Xa rfl rfl rfl rfl) (ZU (Nat.lt_trans (hk16 k hk) (by decide)) (at_strs (by exact hk16 k hk))) rfl
  ·refine XY (p:=.lst (tabL.map fun k:Nat=>.int (k:Int))) (q:=.int (x/4096%5:Nat)) (KR tabL (by kernel_rfl) (by kernel_rfl)) ?_ (Kn (h3 5 (by decide)) (by kernel_rfl)) rfl
   exact XI (p:=.int (x/4096:Nat)) (Xa rfl rfl rfl rfl) (q:=.int (5:Nat)) Xe (Yq (by decide))
open PySem.Sre in
structure JD(code:Array Nat)(P:Nat→Bool)(e n:Nat):Prop where
 info:ops[code.getD 0 0]? =some .INFO
 four:code.getD 2 0=4
 head:header code=(1,e)
 first:∀c seen,∃seen',inSet code c code.size 5 true seen= .ok (P c,seen')
 acc:∀c seen,∃seen',accepts code e c seen= .ok (P c,seen')
 exIn:∀(m:M) (seen':Sre.Seen),m.pos<m.lim→accepts code e (m.text.getD m.pos 0) (m.seen.add (code.getD e 0))= .ok (true,seen')→M.exec {m with code:=code,pc:=e}={m with code:=code,seen:=seen',pc:=n,pos:=m.pos+1}
 exEnd:∀m:M,M.exec {m with code:=code,pc:=n,outermost:=true,wholeText:=false,mustAdvance:=false}=M.say {m with code:=code,pc:=n,outermost:=true,wholeText:=false,mustAdvance:=false,seen:=m.seen.add (code.getD n 0),handed:=m.pos} true
 fits:e<code.size∧n<code.size
open PySem.Sre in
theorem admitted_eq{code:Array Nat}{P:Nat→Bool}{e n:Nat}(S:JD code P e n)(m:M)(hm:m.code=code):∀(fuel s:Nat) (seen:Sre.Seen),
 (∃j seen',M.admitted m fuel s seen= .ok (some j,seen')∧s≤j∧j<m.lim∧P (m.text.getD j 0)=true)∨(∃seen',M.admitted m fuel s seen= .ok (none,seen')∧∀j,s≤j→j<m.lim→j<s+fuel→P (m.text.getD j 0)=false)
 |0,s,seen=>.inr ⟨seen,rfl,fun j h1 h2 h3=>absurd h3 (Nat.not_lt_of_ge h1)⟩
 |fuel+1,s,seen=>by
  rw[M.admitted]
  by_cases hs:s≥m.lim
  ·rw[if_pos hs];exact .inr ⟨seen,rfl,fun j h1 h2 h3=>absurd h2 (Nat.not_lt_of_ge (Nat.le_trans hs h1))⟩
  ·rw[if_neg hs,hm]
   obtain⟨seen',h⟩:=S.first (m.text.getD s 0) seen
   rw[h]
   cases hp:P (m.text.getD s 0)with
   |true=>exact .inl ⟨s,seen',rfl,Nat.le_refl _,Nat.not_le.mp hs,hp⟩
   |false=>
    rcases admitted_eq S m hm fuel (s+1) seen' with⟨j,s2,h1,h2,h3,h4⟩ | ⟨s2,h1,h2⟩
    ·exact .inl ⟨j,s2,h1,Nat.le_of_succ_le h2,h3,h4⟩
    ·refine .inr ⟨s2,h1,fun j h3 h4 h5=> ?_⟩
     rcases Nat.eq_or_lt_of_le h3 with q |q
     ·rw[←q];exact hp
     ·exact h2 j q h4 (Nat.lt_of_lt_of_eq h5 (Nat.succ_add_eq_add_succ s fuel).symm)
open PySem.Sre in
theorem UP{m:M}{k:Nat}(ho:m.outcome=none):m.runFor (k+1)=m.step.runFor k:=if_neg (by rw[ho];exact Bool.false_ne_true)
open PySem.Sre in
theorem step_exec{m:M}(ho:m.outcome=none)(ha:m.answer=none)(hp:m.pc<m.code.size):m.step=m.exec:=by
 unfold M.step
 rw[ho,ha]
 exact(if_neg Bool.false_ne_true).trans (if_pos hp)
open PySem.Sre in
theorem step_back{m:M}{f:Sre.Frame}(ho:m.outcome=none)(ha:m.answer=some true)(hf:m.frames=[f]):∃m':M,m'.outcome=none∧m'.frames=[]∧m.step=m'.resume f true:=by
 unfold M.step
 rw[ho,ha,hf]
 exact⟨_,rfl,rfl,if_neg Bool.false_ne_true⟩
open PySem.Sre in
theorem resume_yes{m:M}{f:Sre.Frame}(h:f.wait= .nextStart):m.resume f true=m.say true:=by
 obtain⟨fw,fp,fq⟩:=f
 subst h
 rfl
open PySem.Sre in
theorem run_found{code:Array Nat}{P:Nat→Bool}{e n:Nat}(S:JD code P e n)(m:M)(hm:m.code=code)(hpc:m.pc=e)(hpos:m.pos<m.lim)(hP:P (m.text.getD m.pos 0)=true)(hf:∃f,m.frames=[f]∧f.wait= .nextStart)(ha:m.answer=none)(ho:m.outcome=none)
(hout:m.outermost=true)(hw:m.wholeText=false)(hmust:m.mustAdvance=false):(m.runFor 4).outcome=some .matched:=by
 obtain⟨f,hf,hwait⟩:=hf
 obtain⟨seen1,h⟩:=S.acc (m.text.getD m.pos 0) (m.seen.add (code.getD e 0))
 rw[hP]at h
 have em:m={m with code:=code,pc:=e}:=by rw[←hm,←hpc]
 have s1:=(step_exec ho ha (by rw[hm,hpc];exact S.fits.1)).trans ((congrArg M.exec em).trans (S.exIn m seen1 hpos h))
 rw[UP ho]
 generalize m.step=m1 at s1
 obtain⟨o1,a1,f1,c1,p1,t1,w1,u1⟩:m1.outcome=none∧m1.answer=none∧m1.frames=[f]∧m1.code=code∧m1.pc=n∧m1.outermost=true∧m1.wholeText=false∧m1.mustAdvance=false:=by
  rw[s1];exact⟨ho,ha,hf,rfl,rfl,hout,hw,hmust⟩
 clear s1
 have em:m1={m1 with code:=code,pc:=n,outermost:=true,wholeText:=false,mustAdvance:=false}:=by
  obtain⟨⟩:=m1
  cases c1;cases p1;cases t1;cases w1;cases u1;rfl
 have s2:=(step_exec o1 a1 (by rw[c1,p1];exact S.fits.2)).trans ((congrArg M.exec em).trans (S.exEnd m1))
 rw[UP o1]
 generalize m1.step=m2 at s2
 obtain⟨o2,a2,f2⟩:m2.outcome=none∧m2.answer=some true∧m2.frames=[f]:=by
  rw[s2];exact⟨o1,rfl,f1⟩
 clear s2
 obtain⟨m',h1,h2,h3⟩:=step_back o2 a2 f2
 have h3:=h3.trans (resume_yes hwait)
 obtain⟨o3,a3,f3⟩:m2.step.outcome=none∧m2.step.answer=some true∧m2.step.frames=[]:=by
  rw[h3];exact⟨h1,rfl,h2⟩
 clear h3
 rw[UP o2]
 generalize m2.step=m3 at o3 a3 f3
 rw[UP o3]
 show m3.step.outcome=_
 unfold M.step
 rw[o3,a3,f3]
 rfl
open PySem.Sre in
theorem run_lost(m:M)(hf:m.frames=[])(ha:m.answer=some false)(ho:m.outcome=none):(m.runFor 4).outcome=some .failed:=by
 have s1:m.step.outcome=some .failed:=by
  unfold M.step
  rw[ho,ha,hf]
  rfl
 rw[UP ho]
 unfold M.runFor
 rw[s1]
 exact s1
open PySem.Sre in
theorem from_search{code:Array Nat}{P:Nat→Bool}{e n:Nat}(S:JD code P e n)(text:Array Nat)(m:M)(hc:m.code=code)(ht:m.text=text)(hl:m.lim=text.size)(hpc:m.pc=e)(hf:m.frames=[])(ha:m.answer=none)(ho:m.outcome=none)(hw:m.wholeText=false)(hwt:m.weight=0):
 ((m.attemptFrom 0 true).runFor 4).outcome=if text.toList.any P then some .matched else some .failed:=by
 have hP:∀i,i<text.size→text.getD i 0∈text.toList:=fun i hi=>by
  rw[Array.getD_eq_getD_getElem?,Array.getElem?_eq_getElem hi,Option.getD_some,Array.mem_toList_iff]
  exact Array.getElem_mem hi
 have hQ:∀c∈text.toList,∃i,i<text.size∧text.getD i 0=c:=fun c hc=>by
  rw[Array.mem_toList_iff]at hc
  obtain⟨i,hi,h⟩:=Array.getElem_of_mem hc
  exact⟨i,hi,by rw[Array.getD_eq_getD_getElem?,Array.getElem?_eq_getElem hi];exact h⟩
 unfold M.attemptFrom
 have hfs:m.hasFirstSet=true:=by
  unfold M.hasFirstSet
  rw[hc,S.four,S.info];rfl
 rw[hfs]
 simp only[Bool.not_true,Bool.false_eq_true,if_false]
 rcases admitted_eq S m hc (m.lim+1-0) 0 m.seen with⟨j,seen',h1,h2,h3,h4⟩ | ⟨seen',h1,h2⟩
 ·rw[h1]
  rw[ht]at h4
  rw[hl]at h3
  have hany:text.toList.any P=true:=List.any_eq_true.mpr ⟨_,hP j h3,h4⟩
  rw[hany,if_pos rfl]
  show((M.attemptAt {m with mustAdvance:=false,seen:=seen'} j true).runFor 4).outcome=_
  unfold M.attemptAt M.attempt
  rw[if_neg (by rw[hwt];show ¬(0+1+0>16777216);decide)]
  refine run_found S _ hc hpc (by show j<m.lim;rw[hl];exact h3) (by show P (m.text.getD j 0)=true;rw[ht];exact h4) ⟨_,by show _::m.frames=_;rw[hf],rfl⟩ ha ho rfl hw rfl
 ·rw[h1]
  have hany:text.toList.any P=false:=by
   rw[List.any_eq_false]
   intro c hc
   obtain⟨i,hi,rfl⟩:=hQ c hc
   have:=h2 i (Nat.zero_le _) (by rw[hl];exact hi) (by rw[hl];lia)
   rw[ht]at this
   rw[this];exact Bool.false_ne_true
  rw[hany]
  exact run_lost _ hf rfl ho
open PySem.Sre in
theorem search_one{code:Array Nat}{P:Nat→Bool}{e n:Nat}(S:JD code P e n)(text:Array Nat):((forSearch code text 0 0 text.size false).runFor 4).outcome=if text.toList.any P then some .matched else some .failed:=by
 unfold forSearch
 simp only[S.head]
 rcases Nat.eq_zero_or_pos text.size with h0 |h0
 ·rw[if_pos (by simp[h0])]
  have:text.toList=[]:=List.eq_nil_of_length_eq_zero (by rw[Array.length_toList];exact h0)
  rw[this]
  exact run_lost _ rfl rfl rfl
 ·rw[if_neg (fun h=>by
   rw[Bool.or_eq_true,decide_eq_true_eq,decide_eq_true_eq]at h
   lia)]
  exact from_search S text _ rfl rfl rfl (by show(header code).2=e;rw[S.head]) rfl rfl rfl rfl rfl
noncomputable def tspC:Array Nat:=#[14,14,4,1,1,9,0,4227896069,939524097,0,0,0,0,0,0,13,11,9,0,4227896069,939524097,0,0,0,0,0,0,1]
noncomputable def nmC:Array Nat:=#[14,10,4,1,1,22,0,31,16,127,0,13,7,22,0,31,16,127,0,1]
noncomputable def vlC:Array Nat:=#[14,14,4,1,1,9,4294966783,0,0,2147483648,0,0,0,0,0,13,11,9,4294966783,0,0,2147483648,0,0,0,0,0,1]
noncomputable def tspP(c:Nat):Bool:=decide (c<256)&&(tspC.getD (5+(1+c/32)) 0).testBit (c%32)
noncomputable def vlP(c:Nat):Bool:=decide (c<256)&&(vlC.getD (5+(1+c/32)) 0).testBit (c%32)
noncomputable def nmP(c:Nat):Bool:=decide (c≤31)||c==127
theorem UD{ε α:Type}{b:Bool}{x y:α}:∃z,(if b=true then(.ok (true,x):Except ε (Bool×α))else .ok (false,y))= .ok (b,z):=by
 cases b<;>exact⟨_,rfl⟩
open PySem.Sre in
theorem VE{r:Except String (Bool×Sre.Seen)}{z:Sre.Seen}{a:String→M}{b c:Sre.Seen→M}(h:r= .ok (true,z)):(match(generalizing:=false) r with | .error why=>a why | .ok (false,seen)=>b seen | .ok (true,seen)=>c seen)=c z:=by subst h;rfl
open PySem.Sre in
theorem one_tsp:JD tspC tspP 15 27 where
 info:=by kernel_rfl
 four:=by kernel_rfl
 head:=by kernel_rfl
 first:=fun c seen=>by
  have h:inSet tspC c tspC.size 5 true seen=(if(decide (c<256)&&(tspC.getD (5+(1+c/32)) 0).testBit (c%32))=true then .ok (true,seen.add 9)else .ok (false,(seen.add 9).add 0)):=by kernel_rfl
  rw[h]
  exact UD
 acc:=fun c seen=>by
  have h:accepts tspC 15 c seen=(if(decide (c<256)&&(tspC.getD (17+(1+c/32)) 0).testBit (c%32))=true then .ok (true,seen.add 9)else .ok (false,(seen.add 9).add 0)):=by kernel_rfl
  have hk:(decide (c<256)&&(tspC.getD (17+(1+c/32)) 0).testBit (c%32))=(decide (c<256)&&(tspC.getD (5+(1+c/32)) 0).testBit (c%32)):=by
   by_cases hc:c<256
   ·have h8:∀k,k<8→tspC.getD (17+(1+k)) 0=tspC.getD (5+(1+k)) 0:=by decide +kernel
    rw[h8 (c/32) ((Nat.div_lt_iff_lt_mul (by decide)).mpr hc)]
   ·rw[decide_eq_false hc];rfl
  rw[h,hk]
  exact UD
 exIn:=fun m seen' h3 h4=>(if_neg (Nat.not_le.mpr h3)).trans (VE h4)
 exEnd:=fun m=>by kernel_rfl
 fits:=by decide
open PySem.Sre in
theorem one_vl:JD vlC vlP 15 27 where
 info:=by kernel_rfl
 four:=by kernel_rfl
 head:=by kernel_rfl
 first:=fun c seen=>by
  have h:inSet vlC c vlC.size 5 true seen=(if(decide (c<256)&&(vlC.getD (5+(1+c/32)) 0).testBit (c%32))=true then .ok (true,seen.add 9)else .ok (false,(seen.add 9).add 0)):=by kernel_rfl
  rw[h]
  exact UD
 acc:=fun c seen=>by
  have h:accepts vlC 15 c seen=(if(decide (c<256)&&(vlC.getD (17+(1+c/32)) 0).testBit (c%32))=true then .ok (true,seen.add 9)else .ok (false,(seen.add 9).add 0)):=by kernel_rfl
  have hk:(decide (c<256)&&(vlC.getD (17+(1+c/32)) 0).testBit (c%32))=(decide (c<256)&&(vlC.getD (5+(1+c/32)) 0).testBit (c%32)):=by
   by_cases hc:c<256
   ·have h8:∀k,k<8→vlC.getD (17+(1+k)) 0=vlC.getD (5+(1+k)) 0:=by decide +kernel
    rw[h8 (c/32) ((Nat.div_lt_iff_lt_mul (by decide)).mpr hc)]
   ·rw[decide_eq_false hc];rfl
  rw[h,hk]
  exact UD
 exIn:=fun m seen' h3 h4=>(if_neg (Nat.not_le.mpr h3)).trans (VE h4)
 exEnd:=fun m=>by kernel_rfl
 fits:=by decide
open PySem.Sre in
theorem one_nm:JD nmC nmP 11 19 where
 info:=by kernel_rfl
 four:=by kernel_rfl
 head:=by kernel_rfl
 first:=fun c seen=>by
  have h:inSet nmC c nmC.size 5 true seen=(if(decide (0≤c)&&decide (c≤31))=true then .ok (true,seen.add 22)else if(c==127)=true then .ok (true,(seen.add 22).add 16)else .ok (false,((seen.add 22).add 16).add 0)):=by kernel_rfl
  rw[h]
  unfold nmP
  rw[decide_eq_true (Nat.zero_le c),Bool.true_and]
  cases h1:decide (c≤31)<;>cases h2:(c==127)<;>exact⟨_,rfl⟩
 acc:=fun c seen=>by
  have h:accepts nmC 11 c seen=(if(decide (0≤c)&&decide (c≤31))=true then .ok (true,seen.add 22)else if(c==127)=true then .ok (true,(seen.add 22).add 16)else .ok (false,((seen.add 22).add 16).add 0)):=by kernel_rfl
  rw[h]
  unfold nmP
  rw[decide_eq_true (Nat.zero_le c),Bool.true_and]
  cases h1:decide (c≤31)<;>cases h2:(c==127)<;>exact⟨_,rfl⟩
 exIn:=fun m seen' h3 h4=>(if_neg (Nat.not_le.mpr h3)).trans (VE h4)
 exEnd:=fun m=>by kernel_rfl
 fits:=by decide
end
section
open PySem PySem.W PyProof.Rows PySem.Spec PySem.Calls
open PySem.Builtin PySem.Builtin.Re
theorem re_slot:Slot "re.Pattern" "search" "re.Pattern.search":=
 .of (owner:="re.Pattern") (n:="search") (by rw[typeLookup_type,builtinLookup_eq_fast];kernel_rfl) (by decide +kernel) (by decide +kernel) (by decide +kernel)
   (by first |exact .inl (by decide +kernel) |exact .inr (by decide +kernel)) (by rw[isSubtype_type];kernel_rfl)
theorem re_type:typeOf (.builtin "re.Pattern.search")=pure (.type "method_descriptor"):=by show builtinType _=_;rw[builtinType_eq_fast];kernel_rfl
theorem re_entry:entryFor table "re.Pattern.search"=some Builtin.«re.Pattern.search» :=entryFor_of_tree (by kernel_rfl)
theorem re_attrs:PlainAttrs "re.Pattern":=
 ⟨⟨"object.__getattribute__",by rw[typeLookup_type,builtinLookup_eq_fast];kernel_rfl,by decide +kernel⟩,by rw[typeLookup_type,builtinLookup_eq_fast];kernel_rfl⟩
theorem re_owner:Manifest.owners.lookup (String.ofList ['n','r','e','t','t','a','P','.','e','r'].reverse)=some Manifest.sig_re_Pattern:=by kernel_rfl
theorem re_args(a b:Value):argsOk "re.Pattern.search" ⟨[a,b],[]⟩:=by
 unfold argsOk;rw[signature?_of (id:="re.Pattern.search") (n:=['h','c','r','a','e','s']) (o:=['n','r','e','t','t','a','P','.','e','r']) (by kernel_rfl) re_owner];kernel_rfl
theorem match_noBool:typeLookup (.type "re.Match") "__bool__"=pure none:=by rw[typeLookup_type,builtinLookup_eq_fast];kernel_rfl
theorem match_noLen:typeLookup (.type "re.Match") "__len__"=pure none:=by rw[typeLookup_type,builtinLookup_eq_fast];kernel_rfl
section
variable{prog:Program}{w:World}{A:Around}{E:Value→Shared→Prop}{s:Shared}
theorem truthy_match{a:Addr}{Q:Bool→Shared→Prop}(hT:s.TypeIs (.ref a) "re.Match")(h:Q true s):wpAny (model prog w) A (truthy (.ref a)) Q E s:=by
 unfold truthy
 refine wpAny_bind (wpAny_callSpecial?_none (name:=Str.ofString "__bool__") hT match_noBool ?_)
 refine wpAny_bind (wpAny_specialOf (name:=Str.ofString "__len__") hT match_noLen ?_)
 exact wpAny_pure h
theorem run_to_end{m:Sre.M}{b:Bool}{Q:Option Sre.M→Shared→Prop}(hm:(m.runFor 4).outcome=if b then some .matched else some .failed)(h:Q (if b then some (m.runFor 4)else none) s):wpAny (model prog w) A (reRunToEnd m) Q E s:=by
 unfold reRunToEnd
 have hd:reDrive (2 ^ 64) m=pure (m.runFor 4):=by
  show reDrive ((2 ^ 64-1)+1) m=_
  unfold reDrive
  show(if(m.runFor 4).outcome.isSome=true then pure (m.runFor 4)else _)=_
  rw[hm]
  cases b<;>rfl
 refine wpAny_bind (wpAny_of_eq hd ?_)
 refine wpAny_bind (wpAny_forIn_list _ (fun _ _ s'=>s'=s) _ (fun x rest b' s₁ hI=> ?_) (fun b' s₁ hI=> ?_) _ _ rfl)
 ·subst hI
  cases hx:(m.runFor 4).seen.has x with
  |false=>exact wpAny_pure rfl
  |true=>exact wpAny_bind (wpAny_rule (wpAny_pure rfl))
 ·subst hI
  rw[hm]
  cases b<;>exact wpAny_pure h
end
theorem re_named(v:Value):reNamed "re.Pattern.search" "search" ["string","pos","endpos"] 1 [v] []=pure [some v,none,none]:=by kernel_rfl
section
variable{prog:Program}{w:World}{A:Around}{E:Value→Shared→Prop}{s:Shared}
theorem re_text{x:Str}{t:Tok}:reTextOf (.str x t)=pure (x.cps,0):=by rfl
theorem body_search{a ca:Addr}{o:Obj}{p0 p1 p3 p4:Value}{t2 t6:Tok}{items:Array Value}{n:Nat}{x:Str}{t:Tok}{code:Array Nat}{P:Nat→Bool}{e k:Nat}{Q:Fin→Shared→Prop}
(S:JD code P e k)(ho:s.heap.get? a=some o)(hd:o.data= .fields #[p0,p1,.int 0 t2,p3,p4,.ref ca,.int 0 t6])(hc:∃c d sl,s.heap.get? ca=some ⟨c,d,.seq items n,sl⟩)(hcode:(items.map reRawOf).map (·.toNat)=code)(hx:x.length≤sizeLine)
(h1:x.cps.toList.any P=true→∀a' s',s'.TypeIs (.ref a') "re.Match"→Keeps s s'→Q (.done (.ret (.ref a'))) s')
(h0:x.cps.toList.any P=false→Q (.done (.ret .none)) s):wpAny (model prog w) A (Builtin.«re.Pattern.search» ⟨[.ref a,.str x t],[]⟩) Q E s:=by
 unfold Builtin.«re.Pattern.search»
 have ht:∀{Q':ReTarget→Shared→Prop},Q' {pattern:=.ref a,string:=.str x t,code:=code,text:=x.cps,kind:=0,groups:=0,pos:=0,lim:=x.cps.size} s→wpAny (model prog w) A (reTarget "re.Pattern.search" "search" ⟨[.ref a,.str x t],[]⟩) Q' E s:=fun{Q'} hq=>by
  unfold reTarget
  dsimp only
  refine wpAny_bind (wpAny_of_eq (re_named _) ?_)
  dsimp only
  refine wpAny_bind (wpAny_pure (wpAny_bind (wpAny_pure ?_)))
  refine wpAny_bind ?_
  unfold PySem.fieldsOf
  refine wpAny_bind (wpAny_load ho ?_)
  rw[hd]
  refine wpAny_pure ?_
  refine wpAny_bind (wpAny_of_eq re_text ?_)
  dsimp only
  have e1:(reRawNat ((#[p0,p1,.int 0 t2,p3,p4,.ref ca,.int 0 t6]:Array Value).getD 6 .none)==0&&(0:Nat)==1)=false:=rfl
  have e2:(reRawNat ((#[p0,p1,.int 0 t2,p3,p4,.ref ca,.int 0 t6]:Array Value).getD 6 .none)==1&&(0:Nat)==0)=false:=rfl
  rw[e1,e2]
  simp only[Bool.false_eq_true,if_false]
  refine wpAny_bind (wpAny_pure ?_)
  obtain⟨c,d,sl,hc⟩:=hc
  refine wpAny_bind ?_
  show wpAny _ _ (do return ((←seqItems? (.ref ca)).getD #[]).map reRawOf) _ _ _
  refine wpAny_bind ?_
  show wpAny _ _ (do let o ←load ca;match o.data with | .seq xs _=>pure (some xs) |_=>pure none) _ _ _
  refine wpAny_bind (wpAny_load hc ?_)
  refine wpAny_pure (wpAny_pure (wpAny_pure ?_))
  rw[show((some items).getD #[]:Array Value)=items from rfl,hcode]
  have e3:min ((2 ^ 63-1:Int).toNat) x.cps.size=x.cps.size:=Nat.min_eq_right (Nat.le_trans (show x.cps.size≤sizeLine from hx) (by decide +kernel))
  have e4:min (Int.toNat 0) x.cps.size=0:=Nat.min_eq_left (Nat.zero_le _)
  rw[e3,e4]
  exact hq
 refine wpAny_bind (ht ?_)
 unfold reAnswer
 refine wpAny_bind (run_to_end (b:=x.cps.toList.any P) (search_one S x.cps) ?_)
 cases hb:x.cps.toList.any P with
 |false=>exact wpAny_pure (h0 hb)
 |true=>
  refine wpAny_bind ?_
  show wpAny _ _ (reNewMatch (.ref a) (.str x t) 0 0 x.cps.size _) _ _ s
  unfold reNewMatch
  simp only[List.range_zero,List.flatMap_nil,List.any_nil,Bool.false_eq_true,if_false]
  refine wpAny_bind ?_
  refine wpAny_newTuple ?_ (show 2≤sizeLine by decide +kernel)
  refine wpAny_newObj_type ?_
  refine wpAny_pure (h1 hb _ _ ⟨_,Heap.get?_push_size _ rfl,rfl⟩ ⟨_,s.toks,rfl,fun b o e=>Heap.get?_push_of_some _ (Heap.get?_push_of_some _ e)⟩)
end
end
section
open PySem PySem.W PyProof.Rows PySem.Spec PySem.Calls
section
variable{c:Cx}
structure Wq(w:World)(g:Nat→Obj)(a:Addr)(P:Nat→Bool):Prop where
 tab:Xp a=false
 go:∃(o:Obj) (p0 p1 p3 p4:Value) (t2 t6:Tok) (ca:Addr) (cc:Value) (cd:Option Addr) (items:Array Value) (n:Nat) (sl:Array (Option Value)) (code:Array Nat) (e k:Nat),(S35 w g).heap.get? a=some o∧o.cls= .type "re.Pattern"∧o.dict=none∧
  o.data= .fields #[p0,p1,.int 0 t2,p3,p4,.ref ca,.int 0 t6]∧Xp ca=false∧(S35 w g).heap.get? ca=some ⟨cc,cd,.seq items n,sl⟩∧(items.map PySem.Builtin.Re.reRawOf).map (·.toNat)=code∧JD code P e k
theorem ZC{o v:PySem.Expr}{apos pos:Pos}{a:Addr}{x:Str}{P:Nat→Bool}(hp:Wq c.w c.g a P)(ho:EvOk c o (.val (.ref a)))(hv:EvOk c v (.str x))(hx:x.length≤sizeLine)
(hb:attributeBase o "search" c.env (eval o c.env)=eval o c.env)(hst:XV v=false)(hl:(apos.endLine==pos.line)=true):XE c (.Call (.Attribute o "search" apos) [v] [] pos) (x.cps.toList.any P):=.mk fun s hs=>by
 obtain⟨ht,ob,p0,p1,p3,p4,t2,t6,ca,cc,cd,items,n,sl,code,e,k,h1,h2,h3,h4,h5,h6,h7,S⟩:=hp
 refine isTrue_plain (Q:=fun b s'=>b=x.cps.toList.any P∧Kp c.lam s s') (whole:=eval (.Call (.Attribute o "search" apos) [v] [] pos) c.env) ?_ rfl
 refine Call_method1 hb (Zs hst) hl (Xi ho hs fun u s₁ r₁ k₁ st₁=> ?_)
 rw[Rep]at r₁
 subst r₁
 have hget:∀s,c.St s→s.heap.get? a=some ob:=fun s hs=>hs.1.1 a ob ht h1
 refine⟨"re.Pattern","re.Pattern.search",re_attrs,re_slot,re_type,⟨ob,hget _ st₁,h2⟩,fun a' ha'=> ?_,?_⟩
 ·obtain rfl:a=a':=by injection ha'
  exact⟨ob,hget _ st₁,h3⟩
 refine callWith_builtin rfl (evalArgs_plain (spliced_cons (Xi hv st₁ fun u s₂ r₂ k₂ st₂=>spliced_nil ?_)))
 rw[Rep]at r₂
 obtain⟨t,rfl⟩:=r₂
 refine wpAny_call_entry re_slot ⟨ob,hget _ st₂,h2⟩ re_entry ?_ (re_args _ _)
 refine body_search S (hget _ st₂) h4 ⟨cc,cd,sl,st₂.1.1 ca _ h5 h6⟩ h7 hx (fun hany a' s' hT hK=> ?_) fun hany=> ?_
 ·exact⟨_,rfl,truthy_match hT ⟨hany.symm,(k₁.trans k₂).trans (.of_keeps hK)⟩⟩
 ·exact⟨_,rfl,PyProof.Rows.truthy_none ⟨hany.symm,k₁.trans k₂⟩⟩
theorem pat_tsp(w:World)(g:Nat→Obj):Wq w g 249 tspP:=⟨rfl,o249 w.params,(Xn (o249 w.params)).getD 0 .none,(Xn (o249 w.params)).getD 1 .none,.none,.none,0,0,248,.type "tuple",none,Vc (o248 w.params),0,#[],tspC,15,27,by kernel_rfl,rfl,rfl,by kernel_rfl,rfl,by kernel_rfl,by kernel_rfl,one_tsp⟩
theorem pat_nm(w:World)(g:Nat→Obj):Wq w g 254 nmP:=⟨rfl,o254 w.params,(Xn (o254 w.params)).getD 0 .none,(Xn (o254 w.params)).getD 1 .none,.none,.none,0,0,253,.type "tuple",none,Vc (o253 w.params),0,#[],nmC,11,19,by kernel_rfl,rfl,rfl,by kernel_rfl,rfl,by kernel_rfl,by kernel_rfl,one_nm⟩
theorem pat_vl(w:World)(g:Nat→Obj):Wq w g 259 vlP:=⟨rfl,o259 w.params,(Xn (o259 w.params)).getD 0 .none,(Xn (o259 w.params)).getD 1 .none,.none,.none,0,0,258,.type "tuple",none,Vc (o258 w.params),0,#[],vlC,15,27,by kernel_rfl,rfl,rfl,by kernel_rfl,rfl,by kernel_rfl,by kernel_rfl,one_vl⟩
end
theorem XD{w:World}{g:Nat→Obj}{s:Shared}(B:Base w g s){K:Frag}(h:∀p∈K,Xp p.1=false∧(S35 w g).heap.get? p.1=some p.2):K.In s.heap:=fun a o e=>by
 obtain⟨h1,h2⟩:=h (a,o) (Vu e)
 exact B.1 a o h1 h2
theorem fn_def{l:Bool}{w:World}{g:Nat→Obj}{n:Nat}{fd:FuncData}{body:List Stmt}{a c':Addr}{o oc:Obj}{cvs:Array Value}{ct:Tok}{ns:List Str}{ps:List PV}{r:PV}{K:Frag}
(ho:(S35 w g).heap.get? a=some o)(ha:Xp a=false)(hd:o.data= .func fd)(hcode:fd.code= .ref c')
(hoc:(S35 w g).heap.get? c'=some oc)(hc':Xp c'=false)(hdc:oc.data= .fields cvs)(hcn:cvs[1]? =some (.str fd.qualname ct))(hbody:fd.body= .stmts body)
(hK:∀p∈K,Xp p.1=false∧(S35 w g).heap.get? p.1=some p.2)(hbind:∀vs:List Value,vs.length=ps.length→∀S,peek K S (bindArgs fd ⟨vs,[]⟩)=some (ns.zip vs))(hclo:fd.closure=[])
(hloc:(ns.all fun x=>decide (fd.scope.names.lookup x=some .local))=true)(hcell:(fd.scope.names.all fun x=>x.2 != .cell)=true)
(hgl:fd.globals=mainGlobals)(hbl:fd.builtins=builtinsNs)(hco:fd.scope.isCoroutine=false)(hgen:fd.scope.isGenerator=false)(hk:fd.scope.kind= .function)
(h:∀(V:List Addr) (A:Around) (L:Addr) (hh:(A.deeper (callEnv fd L a)).handled=none),439≤L→A.depth+(n+1)<recursionLimit→
   XU (Cx.wr {w:=w,g:=g,A:=A.deeper (callEnv fd L a),env:=callEnv fd L a,ρ:=[],lam:=l,V:=V,X:=fun _=>True,hX:=fun _ _ _ _=>trivial,hh:=hh,kind:=hk,globs:=hgl,blts:=hbl,ground:=Xs w g} ((ns.zip ps).reverse++[])) body (.ret r)):
 FnOk w g l (n+1) (.ref a) ps r:=fun A hh hdep V s vs B hV hr=>by
 refine Zh (l:=l) (ρb:=(ns.zip ps).reverse) (ρf:=[]) (X:=fun _=>True) (fd:=fd) (binds:=ns.zip vs) hh (by lia) B hV (B.1 _ _ ha ho) hd ⟨c',oc,cvs,ct,hcode,B.1 _ _ hc' hoc,hdc,hcn⟩ hbody (kp_binds (XD B hK) (hbind vs hr.length)) hcell (fun x hx=> ?_) hgl hbl hco hgen hk (fun x q hx=> ?_) (fun x q hx=>by simp at hx) (fun x c hx=>by rw[hclo]at hx;simp at hx) (fun x y c hx=>by rw[hclo]at hx;simp at hx) (fun _ _ _ _=>trivial) trivial (fun s₁ k htk st=> ?_)
 ·have h1:x.1∈ns:=(List.of_mem_zip (a:=x.1) (b:=x.2) hx).1
  exact of_decide_eq_true (List.all_eq_true.mp hloc _ h1)
 ·exact XN (x:=x) (q:=q) hr (acc:=[]) (acc':=[]) (fun y q hq=>by simp at hq) x q hx
 ·refine wpAny_mono ((h V A s.heap.objs.size hh B.size hdep).go s₁ st) (fun f s' q=> ?_) fun _ _ x=>x.elim
  obtain⟨⟨v,rfl,hv⟩,k'⟩:=q
  refine⟨hv,?_⟩
  obtain⟨h1,t1,rfl,kk⟩:=k
  obtain⟨h',t',rfl,kk'⟩:=k'
  refine⟨h',t',rfl,fun b o n e=>kk' b o n (fun m=> ?_) (kk b o rfl e)⟩
  have hb:=Heap.lt_size e
  rcases List.mem_cons.mp m with q |q
  ·have:b=s.heap.objs.size:=q
   exact absurd this (Nat.ne_of_lt hb)
  ·have q':b∈fd.closure.map (fun x:Str×Addr=>x.2):=q
   rw[hclo]at q';cases q'
structure Ut(n:Nat)(c:Cx)(b:List Stmt)(o:Out):Prop where
 go:∀s,c.St s→n≤s.toks→wpAny (model pw c.w) c.A (execs b c.env) (fun f s'=>VM c o f s'∧KpF c.lam c.fr s s') (fun _ _=>False) s
theorem Ut.of{n:Nat}{c:Cx}{b:List Stmt}{o:Out}(h:XU c b o):Ut n c b o:=⟨fun s hs _=>h.go s hs⟩
theorem blkT_if{n:Nat}{c:Cx}{t:PySem.Expr}{b1 b2:List Stmt}{pos:Pos}{b:Bool}{r:PV}(ht:XE c t b)(h:Ut n c (if b then b1 else b2) (.ret r)):Ut n c [.If t b1 b2 pos] (.ret r):=⟨fun s hs hn=>by
 refine wpAny_execs_cons ?_
 rw[exec_If]
 refine wpAny_bind (wpAny_standAt (wpAny_bind (wpAny_mono (wpAny_toks_of hn (ht.go s hs)) (fun x s₁ q=> ?_) fun _ _ x=>x.2)))
 obtain⟨hn₁,rfl,k⟩:=q
 cases x
 ·exact wpAny_mono (h.go s₁ (hs.kp k) hn₁) (fun f s' q=>by obtain⟨⟨v,rfl,hv⟩,k'⟩:=q;exact⟨⟨v,rfl,hv⟩,(KpF.of k).trans k'⟩) fun _ _ x=>x
 ·exact wpAny_mono (h.go s₁ (hs.kp k) hn₁) (fun f s' q=>by obtain⟨⟨v,rfl,hv⟩,k'⟩:=q;exact⟨⟨v,rfl,hv⟩,(KpF.of k).trans k'⟩) fun _ _ x=>x⟩
theorem fn_defT{l:Bool}{w:World}{g:Nat→Obj}{n:Nat}{fd:FuncData}{body:List Stmt}{a c':Addr}{o oc:Obj}{cvs:Array Value}{ct:Tok}{ns:List Str}{ps:List PV}{r:PV}{K:Frag}
(ho:(S35 w g).heap.get? a=some o)(ha:Xp a=false)(hd:o.data= .func fd)(hcode:fd.code= .ref c')
(hoc:(S35 w g).heap.get? c'=some oc)(hc':Xp c'=false)(hdc:oc.data= .fields cvs)(hcn:cvs[1]? =some (.str fd.qualname ct))(hbody:fd.body= .stmts body)
(hK:∀p∈K,Xp p.1=false∧(S35 w g).heap.get? p.1=some p.2)(hbind:∀vs:List Value,vs.length=ps.length→∀S,peek K S (bindArgs fd ⟨vs,[]⟩)=some (ns.zip vs))(hclo:fd.closure=[])(hlen:ns.length=ps.length)
(hloc:(ns.all fun x=>decide (fd.scope.names.lookup x=some .local))=true)(hcell:(fd.scope.names.all fun x=>x.2 != .cell)=true)
(hgl:fd.globals=mainGlobals)(hbl:fd.builtins=builtinsNs)(hco:fd.scope.isCoroutine=false)(hgen:fd.scope.isGenerator=false)(hk:fd.scope.kind= .function)
(h:∀(V:List Addr) (A:Around) (L:Addr) (hh:(A.deeper (callEnv fd L a)).handled=none),439≤L→A.depth+(n+1)<recursionLimit→
   Ut ns.length (Cx.wr {w:=w,g:=g,A:=A.deeper (callEnv fd L a),env:=callEnv fd L a,ρ:=[],lam:=l,V:=V,X:=fun _=>True,hX:=fun _ _ _ _=>trivial,hh:=hh,kind:=hk,globs:=hgl,blts:=hbl,ground:=Xs w g} ((ns.zip ps).reverse++[])) body (.ret r)):
 FnOk w g l (n+1) (.ref a) ps r:=fun A hh hdep V s vs B hV hr=>by
 refine Zh (l:=l) (ρb:=(ns.zip ps).reverse) (ρf:=[]) (X:=fun _=>True) (fd:=fd) (binds:=ns.zip vs) hh (by lia) B hV (B.1 _ _ ha ho) hd ⟨c',oc,cvs,ct,hcode,B.1 _ _ hc' hoc,hdc,hcn⟩ hbody (kp_binds (XD B hK) (hbind vs hr.length)) hcell (fun x hx=> ?_) hgl hbl hco hgen hk (fun x q hx=> ?_) (fun x q hx=>by simp at hx) (fun x c hx=>by rw[hclo]at hx;simp at hx) (fun x y c hx=>by rw[hclo]at hx;simp at hx) (fun _ _ _ _=>trivial) trivial (fun s₁ k htk st=> ?_)
 ·have h1:x.1∈ns:=(List.of_mem_zip (a:=x.1) (b:=x.2) hx).1
  exact of_decide_eq_true (List.all_eq_true.mp hloc _ h1)
 ·exact XN (x:=x) (q:=q) hr (acc:=[]) (acc':=[]) (fun y q hq=>by simp at hq) x q hx
 ·refine wpAny_mono ((h V A s.heap.objs.size hh B.size hdep).go s₁ st (by rw[htk,List.length_zip,hr.length,hlen,Nat.min_self];lia)) (fun f s' q=> ?_) fun _ _ x=>x.elim
  obtain⟨⟨v,rfl,hv⟩,k'⟩:=q
  refine⟨hv,?_⟩
  obtain⟨h1,t1,rfl,kk⟩:=k
  obtain⟨h',t',rfl,kk'⟩:=k'
  refine⟨h',t',rfl,fun b o n e=>kk' b o n (fun m=> ?_) (kk b o rfl e)⟩
  have hb:=Heap.lt_size e
  rcases List.mem_cons.mp m with q |q
  ·have:b=s.heap.objs.size:=q
   exact absurd this (Nat.ne_of_lt hb)
  ·have q':b∈fd.closure.map (fun x:Str×Addr=>x.2):=q
   rw[hclo]at q';cases q'
theorem truth_int{c:Cx}{i:Int}:UJ c (.int i) (i !=0):=fun s v hs hr=>by
 rw[Rep]at hr
 obtain⟨t,rfl⟩:=hr
 exact PyProof.Rows.truthy_int ⟨rfl,.refl s⟩
theorem cmp_gt_int{c:Cx}{a b:Int}:Zi c .Gt (.int a) (.int b) (decide (b<a)):=fun s v u hs h1 h2=>by
 rw[Rep]at h1 h2
 obtain⟨t,rfl⟩:=h1
 obtain⟨t',rfl⟩:=h2
 exact PyProof.Rows.gt_int ⟨rfl,.refl s⟩
theorem app_assoc(x y z:Str):x++y++z=x++(y++z):=by
 obtain⟨x⟩:=x;obtain⟨y⟩:=y;obtain⟨z⟩:=z
 show(⟨x++y++z⟩:Str)=⟨x++(y++z)⟩
 rw[Array.append_assoc]
theorem Kr(x:Str):x++(⟨#[]⟩:Str)=x:=by obtain⟨x⟩:=x;show(⟨x++#[]⟩:Str)=⟨x⟩;simp
theorem Uq(x:Str):(⟨#[]⟩:Str)++x=x:=by obtain⟨x⟩:=x;show(⟨#[]++x⟩:Str)=⟨x⟩;simp
theorem Km(x y:Str):(x++y).length=x.length+y.length:=by
 obtain⟨x⟩:=x;obtain⟨y⟩:=y
 show(x++y).size=x.size+y.size
 exact Array.size_append
theorem Jx:∀l:List Str,(cat l).length=(l.map (·.length)).sum
 | []=>rfl
 |x::l=>by rw[JX,Km,Jx l];rfl
noncomputable def subst(c:Nat)(z l:List Nat):List Nat:=l.flatMap fun k=>if k=c then z else[k]
theorem Kw(c:Nat)(z:List Nat):∀l:List Nat,c∉l→subst c z l=l
 | [],_=>rfl
 |k::r,h=>by
  have h1:¬k=c:=fun e=>h (e▸List.mem_cons_self ..)
  have h2:c∉r:=fun m=>h (List.mem_cons_of_mem _ m)
  have ih:=Kw c z r h2
  unfold subst at ih ⊢
  rw[List.flatMap_cons,if_neg h1,ih];rfl
theorem subst_join(c:Nat)(z:Str):∀parts:List Str,(∀p∈parts,c∉p.cps.toList)→subst c z.cps.toList (Str.join ⟨#[c]⟩ parts).cps.toList=(Str.join z parts).cps.toList
 | [],_=>rfl
 | [p],h=>Kw c _ _ (h p (List.mem_singleton.mpr rfl))
 |p::q::r,h=>by
  have ih:=subst_join c z (q::r) fun a ha=>h a (List.mem_cons_of_mem _ ha)
  have h1:=Kw c z.cps.toList _ (h p (List.mem_cons_self ..))
  show subst c z.cps.toList (p++⟨#[c]⟩++Str.join ⟨#[c]⟩ (q::r)).cps.toList=(p++z++Str.join z (q::r)).cps.toList
  simp only[Str.cps_append,Array.toList_append]
  unfold subst at ih h1 ⊢
  rw[List.flatMap_append,List.flatMap_append,ih,h1]
  simp
theorem replace_subst(x z:Str)(c:Nat):Txt.replace x ⟨#[c]⟩ z=⟨(subst c z.cps.toList x.cps.toList).toArray⟩:=by
 have h:(Txt.replace x ⟨#[c]⟩ z).cps.toList=subst c z.cps.toList x.cps.toList:=by
  rw[StrLaws.replace_one,←subst_join c z _ (StrLaws.split_free x c),StrLaws.join_split]
 rw[←h]
theorem Kg(c:Nat)(z:List Nat)(h:z.length≤2):∀l:List Nat,(subst c z l).length≤2*l.length
 | []=>Nat.zero_le _
 |k::r=>by
  have ih:=Kg c z h r
  unfold subst at ih ⊢
  rw[List.flatMap_cons,List.length_append,List.length_cons]
  split
  ·lia
  ·rw[List.length_singleton];lia
section
variable{c:Cx}
noncomputable def Wc(c:Cx):List PySem.Expr→List Str→Prop
 | [],[]=>True
 |e::es,x::xs=>EvOk c e (.str x)∧Wc c es xs
 |_,_=>False
theorem joins_ok:∀(es:List PySem.Expr) (xs:List Str) (acc:Str) (s₀ s:Shared) (Q:Str→Shared→Prop),Wc c es xs→c.St s→Kp c.lam s₀ s→(acc++cat xs).length≤sizeLine→(∀s',Kp c.lam s₀ s'→Q (acc++cat xs) s')→
 Joins (model pw c.w) c.A (fun _ _=>False) (evalEach es c.env) acc Q s
 | [],[],acc,s₀,s,Q,_,hs,k,hl,hq=>by
   show Q acc s
   have:=hq s k
   rwa [show cat []=(⟨#[]⟩:Str)from rfl,Kr]at this
 |e::es,x::xs,acc,s₀,s,Q,h,hs,k,hl,hq=>by
  show wpAny _ _ (eval e c.env) _ _ s
  refine Xi h.1 hs fun v s₁ r k₁ st₁=> ?_
  rw[Rep]at r
  obtain⟨t,rfl⟩:=r
  rw[JX,←app_assoc]at hl hq
  exact⟨x,t,rfl,by rw[Km]at hl;lia,joins_ok es xs (acc++x) s₀ s₁ Q h.2 st₁ (k.trans k₁) hl hq⟩
 | [],x::xs,_,_,_,_,h,_,_,_,_=>h.elim
 |e::es,[],_,_,_,_,h,_,_,_,_=>h.elim
theorem ev_joined{e₁ e₂:PySem.Expr}{es:List PySem.Expr}{pos:Pos}{xs:List Str}(h:Wc c (e₁::e₂::es) xs)(hl:(xs.map (·.length)).sum≤sizeLine):EvOk c (.JoinedStr (e₁::e₂::es) pos) (.str (cat xs)):=.mk fun s hs=>by
 refine wpAny_JoinedStr ?_
 have hl':((⟨#[]⟩:Str)++cat xs).length≤sizeLine:=by rw[Uq,Jx];exact hl
 refine joins_ok (e₁::e₂::es) xs Str.empty s s _ h hs (.refl s) hl' fun s' k=>⟨hl',?_,k.trans (.tok _)⟩
 rw[Rep]
 exact⟨_,by show Value.str ((⟨#[]⟩:Str)++cat xs) _=_;rw[Uq]⟩
theorem Vz{e:PySem.Expr}{pos:Pos}{x:Str}(h:EvOk c e (.str x))(hl:x.length≤sizeLine):EvOk c (.FormattedValue e 115 none pos) (.str x):=.mk fun s hs=>by
 refine wpAny_FormattedValue_s (Xi h hs fun v s₁ r k₁ st₁=> ?_)
 rw[Rep]at r
 obtain⟨t,rfl⟩:=r
 show wpAny _ _ (habitSame "fstring-hands-on-the-str" (.str x t)) _ _ _
 have fin:∀t s',Kp c.lam s s'→wpAny (model pw c.w) c.A (formatField (.str x t) Str.empty) (fun v s'=>Rep c.V s'.heap (.str x) v∧Kp c.lam s s') (fun _ _=>False) s':=fun t s' k=>
  wpAny_formatField_str ⟨by rw[Rep];exact⟨_,rfl⟩,k⟩ ⟨by rw[Rep];exact⟨_,rfl⟩,k.trans (.tok _)⟩ hl
 exact wpAny_habitSame_str (fin _ _ k₁) (fin _ _ (k₁.trans (.tok _))) hl
noncomputable def GivT(c:Cx)(e:PySem.Expr)(x:Str):Prop:=∀s,c.St s→1≤s.toks→wpAny (model pw c.w) c.A (eval e c.env) (fun v s'=>(∃t,v= .str x t)∧Kp c.lam s s') (fun _ _=>False) s
theorem givT_of{e:PySem.Expr}{x:Str}(h:EvOk c e (.str x)):GivT c e x:=fun s hs _=>wpAny_mono (h.go s hs) (fun v s' q=>⟨by have:=q.1;rw[Rep]at this;exact this,q.2⟩) fun _ _ x=>x
theorem givT_replace{o:PySem.Expr}{k₁ k₂:Nat}{p₁ p₂ apos pos:Pos}{x y z:Str}(h:GivT c o x)(hb:attributeBase o "replace" c.env (eval o c.env)=eval o c.env)(hl:(apos.endLine==pos.line)=true)(hyz:(y==z)=false)(hsz:x.length+(x.length+1)*z.length≤16777216):
 GivT c (.Call (.Attribute o "replace" apos) [.Constant (.str y) k₁ p₁,.Constant (.str z) k₂ p₂] [] pos) (Txt.replace x y z):=fun s hs hn=>by
 refine Call_method2 hb rfl hl ?_
 refine wpAny_mono (wpAny_toks_of hn (h s hs hn)) (fun v s₁ q=> ?_) fun _ _ x=>x.2
 obtain⟨hn₁,⟨t,rfl⟩,k₁⟩:=q
 refine⟨"str","str.replace",F.plainAttrs_str,F.slot_str_replace,F.type_str_replace,typeIs_str _ _ _,(fun _ e=>nomatch e),?_⟩
 refine callWith_builtin rfl (evalArgs_plain (spliced_cons (Constant_str (spliced_cons (Constant_str (spliced_nil ?_))))))
 exact SC.replace (by show s₁.toks≠0;lia) (by show s₁.toks+1≠0;lia) (by show s₁.toks≠s₁.toks+1;lia) hyz hsz fun t' k=>⟨⟨_,rfl⟩,k₁.trans (.tok _)⟩
theorem blkT_assign{n:Nat}(h1:1≤n){x:Str}{pos' pos:Pos}{e:PySem.Expr}{y:Str}{ρ:List (Str×PV)}{rest:List Stmt}{r:PV}(h:GivT (c.wr ρ) e y)(hk:Storable (c.wr ρ) x)(hsw:swapsWith e (some (.Name x pos')) pos.line (c.wr ρ).env=pure false)(hr:XU (c.wr ((x,.str y)::ρ)) rest (.ret r)):
 Ut n (c.wr ρ) (.Assign [.Name x pos'] e pos::rest) (.ret r):=⟨fun s hs hn=>by
 refine wpAny_execs_cons ?_
 rw[exec_Assign_Name _ _ _ _ _ hsw]
 refine wpAny_bind (wpAny_standAt (wpAny_bind (wpAny_mono (h s hs (Nat.le_trans h1 hn)) (fun v s₁ q=> ?_) fun _ _ x=>x)))
 obtain⟨⟨t,rfl⟩,k₁⟩:=q
 refine wpAny_bind (wpAny_standAt (wpAny_bind (wpAny_bindName (Zj (hs.kp k₁) (p:=.str y) (by rw[Rep];exact⟨_,rfl⟩) hk fun s₂ st₂ k₂=> ?_))))
 refine wpAny_pure ?_
 refine wpAny_mono (hr.go s₂ st₂) (fun f s' q=> ?_) fun _ _ x=>x
 obtain⟨⟨v,rfl,hv⟩,k'⟩:=q
 exact⟨⟨v,rfl,hv⟩,((KpF.of k₁).trans k₂).trans k'⟩⟩
end
noncomputable def escL(l:List Nat):List Nat:=subst 34 [92,34] (subst 92 [92,92] l)
noncomputable def escS(v:Str):Str:=⟨(escL v.cps.toList).toArray⟩
noncomputable def quoted(v:Str)(q:Nat):Bool:=q !=0||v.cps.toList.any tspP
noncomputable def fmt(v:Str)(q:Nat):Str:=if quoted v q then cat [⟨#[]⟩,Str.ofString "=\"",escS v,Str.ofString "\""]else cat [⟨#[]⟩,Str.ofString "=",v]
theorem escL_len(l:List Nat):(escL l).length≤4*l.length:=by
 have h1:=Kg 34 [92,34] (by decide) (subst 92 [92,92] l)
 have h2:=Kg 92 [92,92] (by decide) l
 unfold escL
 lia
theorem fn_format(w:World)(g:Nat→Obj)(v:Str)(q:Nat)(hv0:0<v.length)(hv:v.length≤100):FnOk w g false 1 (.ref 267) [.str ⟨#[]⟩,.str v,.int q] (.str (fmt v q)):=by
 refine fn_defT (n:=0) (fd:=fdOf (o267 w.params)) (body:=fdB (stN 26)) (a:=267) (c':=266) (ns:=["param","value","quote"]) (o:=o267 w.params) (oc:=o266 w.params) (cvs:=Xn (o266 w.params)) (ct:=2837) (K:=[(260,o260 w.params)]) (by kernel_rfl) rfl (by kernel_rfl) (by kernel_rfl) (by kernel_rfl) rfl (by kernel_rfl) (by kernel_rfl) (by kernel_rfl) ?_ ?_ (by kernel_rfl) rfl (by kernel_rfl) (by kernel_rfl) (by kernel_rfl) (by kernel_rfl) (by kernel_rfl) (by kernel_rfl) (by kernel_rfl) ?_
 ·intro p hp
  rw[List.mem_singleton]at hp
  subst hp
  exact⟨rfl,by kernel_rfl⟩
 ·intro vs hvs S
  obtain⟨a,b,c,rfl⟩:=len3 hvs
  kernel_rfl
 ·intro V A L hh hL hd
  conv=>arg 3;whnf
  have hesc:(escS v).length≤400:=by
   have h1:=escL_len v.cps.toList
   have h2:v.cps.toList.length=v.length:=Array.length_toList
   show(escL v.cps.toList).toArray.size≤400
   rw[List.size_toArray];lia
  have hs:v.length≤sizeLine:=Nat.le_trans hv (by decide +kernel)
  refine blkT_if (b:=true) (Xk (test_and (a:=true) (Xj (p:=.str v) (q:=.none) (Xa rfl rfl rfl rfl) YI (YQ rfl) rfl) fun _=>test_and (a:=decide ((0:Int)<(v.length:Int))) (Xj (p:=.int v.length) (q:=.int 0) ?_ Xe cmp_gt_int rfl) fun _=>test_and_nil) ?_) ?_
  ·refine XQ (fv:=.builtin "len") (ps:=[.str v]) (Xm rfl (by kernel_rfl) (by kernel_rfl) rfl) (Xc (Xa rfl rfl rfl rfl) Xd rfl) rfl (.inl ⟨_,rfl⟩) (call_len_str (by lia))
  ·have:decide ((0:Int)<(v.length:Int))=true:=decide_eq_true (by lia)
   rw[this];rfl
  ·conv=>arg 3;whnf
   refine blkT_if (b:=quoted v q) (Xk (Kf (a:=(q:Int) !=0) (Yr (p:=.int q) (Xa rfl rfl rfl rfl) truth_int rfl) fun _=>Kf (a:=v.cps.toList.any tspP) (ZC (pat_tsp w g) (XA rfl (by kernel_rfl) rfl) (Xa rfl rfl rfl rfl) hs rfl rfl rfl) fun _=>JH) ?_) ?_
   ·unfold quoted
    rw[Bool.or_false]
    congr 1
    cases q<;>rfl
   ·cases hq:quoted v q with
    |true=>
     conv=>arg 3;whnf
     refine blkT_assign (by decide) (y:=escS v) ?_ (.inl rfl) rfl ?_
     ·have e1:(⟨#[92]⟩:Str)=Str.ofString "\\":=by kernel_rfl
      have e2:(⟨#[92,92]⟩:Str)=Str.ofString "\\\\":=by kernel_rfl
      have e3:(⟨#[34]⟩:Str)=Str.ofString "\"":=by kernel_rfl
      have e4:(⟨#[92,34]⟩:Str)=Str.ofString "\\\"":=by kernel_rfl
      have h1:Txt.replace v (Str.ofString "\\") (Str.ofString "\\\\")=⟨(subst 92 [92,92] v.cps.toList).toArray⟩:=by rw[←e1,←e2,replace_subst]
      have h2:Txt.replace (Txt.replace v (Str.ofString "\\") (Str.ofString "\\\\")) (Str.ofString "\"") (Str.ofString "\\\"")=escS v:=by rw[h1,←e3,←e4,replace_subst];rfl
      have h3:=Kg 92 [92,92] (by decide) v.cps.toList
      have h4:v.cps.toList.length=v.length:=Array.length_toList
      rw[←h2]
      have l1:(Txt.replace v (Str.ofString "\\") (Str.ofString "\\\\")).length≤200:=by
       rw[h1]
       show(subst 92 [92,92] v.cps.toList).toArray.size≤200
       rw[List.size_toArray];lia
      have l2:∀n:Nat,n≤200→n+(n+1)*2≤16777216:=fun n h=>by lia
      refine givT_replace (givT_replace (givT_of (Xa rfl rfl rfl rfl)) rfl rfl (by decide +kernel) ?_) rfl rfl (by decide +kernel) ?_
      ·rw[←e2];exact l2 _ (by lia)
      ·rw[←e4];exact l2 _ l1
     ·unfold fmt
      rw[hq,if_pos rfl]
      refine Ym (Xh (ev_joined ⟨Vz (Xa rfl rfl rfl rfl) ?_,XK,Vz (Xa rfl rfl rfl rfl) ?_,XK,trivial⟩ ?_))
      ·exact(by decide +kernel:(0≤sizeLine))
      ·exact Nat.le_trans hesc (by decide +kernel)
      ·show 0+((Str.ofString "=\"").length+((escS v).length+((Str.ofString "\"").length+0)))≤sizeLine
       have a1:(Str.ofString "=\"").length=2:=by decide +kernel
       have a2:(Str.ofString "\"").length=1:=by decide +kernel
       rw[a1,a2]
       exact Nat.le_trans (show _≤403 by lia) (by decide +kernel)
    |false=>
     conv=>arg 3;whnf
     refine .of (Ym (Xh ?_))
     unfold fmt
     rw[hq,if_neg Bool.false_ne_true]
     refine ev_joined ⟨Vz (Xa rfl rfl rfl rfl) ?_,XK,Vz (Xa rfl rfl rfl rfl) hs,trivial⟩ ?_
     ·exact(by decide +kernel:(0≤sizeLine))
     ·show 0+((Str.ofString "=").length+(v.length+0))≤sizeLine
      have a1:(Str.ofString "=").length=1:=by decide +kernel
      rw[a1]
      exact Nat.le_trans (show _≤403 by lia) (by decide +kernel)
theorem Yf{ρ ρ':List (Str×PV)}(h:∀p∈ρ',ρ.lookup p.1=some p.2):Sub ρ' ρ:=fun x q hx=>h (x,q) (Vu hx)
section
variable{c:Cx}
theorem range_noseq{h:Heap}{I:Addr}{a b cc:Int}(st:IsRangeIter h I a b cc):∀d x n,h.get? I≠some ⟨d,none,.seq x n,#[]⟩:=fun d x n e=>by
 rw[show h.get? I=some _ from st]at e
 cases e
theorem JR{rp ip:Pos}{e:PySem.Expr}{n:Nat}(hr:EvOk c (.Name "range" rp) (.val (.type "range")))(he:EvOk c e (.int n))(hst:XV e=false)(hn:n<2 ^ 60):VO c (.Call (.Name "range" rp) [e] [] ip) ((List.range n).map fun i=>.int (i:Nat)):=fun s hs=>by
 show wpAny _ _ (eval (.Name "range" rp) c.env >>= fun f=>callWith ip f [] (backTo ip (starEach [e] c.env)) (backToKw ip (keywordEach [] c.env))) _ _ s
 refine wpAny_bind (Xi hr hs fun v s₁ r₁ k₁ st₁=> ?_)
 rw[Rep]at r₁
 subst r₁
 have hall:YK c ip [e] [.int n]:=Xc he Xd hst
 refine PyProof.Rows.callWith_type (ZM (by simp[hst])) (YA hall (by simp[hst]) st₁ fun vs s₂ q k₂=> ?_)
 rw[Xb]at q
 obtain⟨v1,vs,rfl,q1,q⟩:=q
 rw[Xb]at q;subst q
 rw[Rep]at q1
 obtain⟨t1,rfl⟩:=q1
 have st₂:=st₁.kp k₂
 refine call_range_1 ?_
 have k₃:Kp c.lam s₂ {s₂ with heap:=s₂.heap.push {cls:=.type "range",data:=.fields #[.int 0 s₂.toks,.int (n:Int) t1,.int 1 (s₂.toks+1)]},toks:=s₂.toks+1+1}:=.push _ _
 have st₃:=st₂.kp k₃
 have hsz:Builtin.Range.rangeSize 0 (n:Int) 1=(n:Int):=by rw[rangeSize_one];split<;>lia
 have hR:=IsRange.new s₂.heap 0 (n:Int) 1 s₂.toks t1 (s₂.toks+1)
 generalize hs3:({s₂ with heap:=s₂.heap.push {cls:=.type "range",data:=.fields #[.int 0 s₂.toks,.int (n:Int) t1,.int 1 (s₂.toks+1)]},toks:=s₂.toks+1+1}:Shared)=s₃ at k₃ st₃ ⊢
 have hR':IsRange s₃.heap s₂.heap.objs.size 0 (n:Int) 1 s₂.toks t1 (s₂.toks+1):=by rw[←hs3];exact hR
 refine wpAny_pyIter_range hR' (small_one (by lia) (by lia) (by lia) (by lia)) ?_
 have W:=(Walks.range (prog:=pw) (w:=c.w) c.hh s₃.heap.objs.size 0 1 n).bound
 refine⟨((k₁.trans k₂).trans k₃).trans (XZ _),s₃.heap.objs.size,[s₃.heap.objs.size],fun i v=>i<n∧∃t,v= .int (0+(i:Int)*1) t,fun i h=>IsRangeIter h s₃.heap.objs.size (0+(i:Nat)*1) ((n:Int)-(i:Nat)) 1,rfl,Jo ((k₁.trans k₂).trans k₃) (Yc _) st₃.1.size,st₃.1.size,?_,?_,?_,?_,?_,?_,?_⟩
 ·rw[List.length_map,List.length_range]
  exact W
 ·rw[hsz]
  show IsRangeIter _ _ (0+((0:Nat):Int)*1) ((n:Int)-((0:Nat):Int)) 1
  rw[show(0+((0:Nat):Int)*1)=(0:Int) by lia,show((n:Int)-((0:Nat):Int))=(n:Int) by lia]
  exact Heap.get?_push_size _ rfl
 ·intro b hb
  rw[List.mem_singleton]at hb
  subst hb
  exact⟨by show _<(s₃.heap.push _).objs.size;rw[Heap.size_push];exact Nat.lt_succ_self _,st₃.2.1.vol.new st₃.1.size,.inl rfl⟩
 ·rintro i v s' ⟨hi,t,rfl⟩ hk
  refine⟨.int (i:Nat),by rw[List.getElem?_map,List.getElem?_range hi];rfl,?_⟩
  rw[Rep]
  exact⟨t,by congr 1;lia⟩
 ·intro i h st
  exact range_noseq st
 ·intro elts k pos i v s Q E hst hQ
  unfold letOwnedTupleGo
  cases v<;>first |exact wpAny_pure hQ |skip
  refine wpAny_bind (wpAny_load hst ?_)
  exact wpAny_pure hQ
 ·intro i h st
  exact⟨_,st⟩
theorem iterE_range{rp ip:Pos}{e:PySem.Expr}{n:Nat}(hr:EvOk c (.Name "range" rp) (.val (.type "range")))(he:EvOk c e (.int n))(hst:XV e=false)(hn:n<2 ^ 60):KV c (.Call (.Name "range" rp) [e] [] ip) ((List.range n).map fun i=>.int (i:Nat)):=(JR hr he hst hn).toE
end
theorem KE{c:Cx}{a b:Int}:Zi c .Eq (.int a) (.int b) (a==b):=fun s v u hs h1 h2=>by
 rw[Rep]at h1 h2
 obtain⟨t,rfl⟩:=h1
 obtain⟨t',rfl⟩:=h2
 exact PyProof.Rows.eq_int ⟨rfl,.refl s⟩
noncomputable def Yu(z:Nat×Str):Nat:=if Txt.contains z.2 (Str.ofString "\t")||((z.1/4096)/135%2:Nat)==1 then 1 else 0
noncomputable def Kt(d:Nat):Nat:=if d/4096/270%2=0 then 32 else 10
noncomputable def Ug(z:Nat×Str):Str:=Str.sl (fmt z.2 (Yu z)) (some 1) none++one (Kt z.1)
noncomputable def Ys(Z:List (Nat×Str)):Str:=cat (Z.map Ug)
theorem cat_append(a b:List Str):cat (a++b)=cat a++cat b:=by
 unfold cat
 show(⟨_⟩:Str)=⟨_++_⟩
 rw[List.flatMap_append]
 simp
theorem cat_one(x:Str):cat [x]=x:=by rw[JX];exact Kr x
theorem fmt_len(v:Str)(q:Nat):(fmt v q).length≤4*v.length+3:=by
 have h1:=escL_len v.cps.toList
 have h2:v.cps.toList.length=v.length:=Array.length_toList
 have h3:(escS v).length=(escL v.cps.toList).length:=by show(escL v.cps.toList).toArray.size=_;rw[List.size_toArray]
 unfold fmt
 split
 ·rw[Jx]
  show 0+((Str.ofString "=\"").length+((escS v).length+((Str.ofString "\"").length+0)))≤_
  have a1:(Str.ofString "=\"").length=2:=by decide +kernel
  have a2:(Str.ofString "\"").length=1:=by decide +kernel
  rw[a1,a2,Nat.zero_add,Nat.add_comm 2,Nat.add_assoc]
  exact Nat.add_le_add_right (by rw[h3,←h2];exact h1) 3
 ·rw[Jx]
  show 0+((Str.ofString "=").length+(v.length+0))≤_
  have a1:(Str.ofString "=").length=1:=by decide +kernel
  rw[a1,Nat.zero_add,Nat.add_comm]
  exact Nat.add_le_add (Nat.le_mul_of_pos_left _ (by decide)) (by decide)
theorem VQ(x:Str)(lo hi:Option Nat):(Str.sl x lo hi).length≤x.length:=((List.take_sublist _ _).trans (List.drop_sublist _ _)).length_le
theorem part_len(z:Nat×Str)(h:z.2.length≤100):(Ug z).length≤404:=by
 unfold Ug
 rw[Km]
 exact Nat.add_le_add (Nat.le_trans (VQ _ _ _) (Nat.le_trans (fmt_len _ _) (Nat.add_le_add_right (Nat.mul_le_mul_left 4 h) 3))) (Nat.le_refl 1)
theorem page_len(Z:List (Nat×Str))(h:∀z∈Z,z.2.length≤100):(Ys Z).length≤404*Z.length:=by
 unfold Ys
 rw[Jx]
 induction Z with
 |nil=>exact Nat.le_refl 0
 |cons z Z ih=>exact Nat.le_trans (Nat.add_le_add (part_len z (h z (List.mem_cons_self ..))) (ih fun y hy=>h y (List.mem_cons_of_mem _ hy))) (Nat.le_of_eq (Nat.add_comm _ _))
theorem fn_page(w:World)(g:Nat→Obj)(Z:List (Nat×Str))(hlen:Z.length≤100)(hZ:∀z∈Z,z.1<2 ^ 50∧0<z.2.length∧z.2.length≤100):
 FnOk w g false 2 (.ref 411) [.lst (Z.map fun z=>.int (z.1:Nat)),.lst (Z.map fun z=>.str z.2)] (.str (Ys Z)):=by
 refine YY (n:=1) (name:="_law_page") (params:=fdA (stN 31)) (body:=fdB (stN 31)) (scope:=fdS (stN 31)) (pm:=.str (S "law_uq0029_01") 3002) (doc:=.none) (a:=411) (c':=410) (ns:=["drawn","spellings"]) (o:=o411 w.params) (oc:=o410 w.params) (cvs:=Xn (o410 w.params)) (ct:=3022) (by kernel_rfl) rfl (by kernel_rfl) (by kernel_rfl) rfl (by kernel_rfl) (by kernel_rfl) ?_ (by kernel_rfl) (by kernel_rfl) (by kernel_rfl) (by kernel_rfl) (by kernel_rfl) ?_
 ·intro vs hv
  obtain⟨a,b,rfl⟩:=len2 hv
  kernel_rfl
 ·intro V A L hh hL hd
  conv=>arg 2;whnf
  refine Xo (.str ⟨#[]⟩) XK (.inl rfl) rfl ?_
  let base:Nat→List (Str×PV):=fun k=>[("page",.str (Ys (Z.take k))),("drawn",.lst (Z.map fun z=>.int (z.1:Nat))),("spellings",.lst (Z.map fun z=>.str z.2))]
  refine Yj (ρ:=base Z.length) (Vl (ps:=(List.range Z.length).map fun i=>.int (i:Nat)) (iterE_range ?_ ?_ rfl ?_) (fun _=>rfl) rfl rfl ?_) ?_
  ·exact Xm rfl (by kernel_rfl) (by kernel_rfl) rfl
  ·refine XQ (fv:=.builtin "len") (ps:=[.lst (Z.map fun z=>.int (z.1:Nat))]) (Xm rfl (by kernel_rfl) (by kernel_rfl) rfl) (Xc (Xa rfl rfl rfl rfl) Xd rfl) rfl (.inl ⟨_,rfl⟩) ?_
   have:=ZO (c:=Cx.wr {w:=w,g:=g,A:=A.deeper (envOf "_law_page" (fdS (stN 31)) L 411 (.ref 410)),env:=envOf "_law_page" (fdS (stN 31)) L 411 (.ref 410),ρ:=[],lam:=false,V:=V,X:=fun _=>True,hX:=fun _ _ _ _=>trivial,hh:=hh,kind:=by kernel_rfl,globs:=rfl,blts:=rfl,ground:=Xs w g} ((Str.ofString "page",PV.str ⟨#[]⟩)::(([Str.ofString "drawn",Str.ofString "spellings"]).zip [.lst (Z.map fun z=>.int (z.1:Nat)),.lst (Z.map fun z=>.str z.2)]).reverse)) (l:=Z.map fun z=>.int (z.1:Nat)) (by rw[List.length_map];exact Nat.lt_of_le_of_lt hlen (by decide))
   rw[List.length_map]at this
   exact this
  ·skip
   exact Nat.lt_of_le_of_lt hlen (by decide)
  ·have key:∀(m k:Nat),k+m=Z.length→∀ρ,Sub (base k) ρ→ForR {w:=w,g:=g,A:=A.deeper (envOf "_law_page" (fdS (stN 31)) L 411 (.ref 410)),env:=envOf "_law_page" (fdS (stN 31)) L 411 (.ref 410),ρ:=[],lam:=false,V:=V,X:=fun _=>True,hX:=fun _ _ _ _=>trivial,hh:=hh,kind:=by kernel_rfl,globs:=rfl,blts:=rfl,ground:=Xs w g}
    (match fdB (stN 31)with |_::.For t _ _ _ _::_=>t |_=>.Name "" ⟨0,0,0,0⟩) (match fdB (stN 31)with |_::.For _ _ b _ _::_=>b |_=>[]) ((List.range' k m).map fun i=>.int (i:Nat)) ρ (.next (base Z.length)):=by
    intro m
    induction m with
    |zero=>intro k hk ρ hsub;obtain rfl:k=Z.length:=hk
           exact .nil hsub
    |succ m ih=>
     intro k hk ρ hsub
     conv=>arg 2;whnf
     conv=>arg 3;whnf
     have hkl:=UA hk
     have hk60:k<2 ^ 60:=Nat.lt_of_lt_of_le hkl (Nat.le_trans hlen (by decide))
     obtain⟨z,hz⟩:∃z,Z[k]? =some z:=⟨Z[k],List.getElem?_eq_getElem hkl⟩
     obtain⟨hz1,hz2,hz3⟩:=hZ z (List.mem_of_getElem? hz)
     have hz60:z.1<2 ^ 60:=Nat.lt_trans hz1 (by decide)
     have hn60:z.1/4096<2 ^ 60:=Nat.lt_of_le_of_lt (Nat.div_le_self _ _) hz60
     rw[List.range'_succ,List.map_cons]
     refine .next (ρ₁:=("page",.str (Ys (Z.take (k+1))))::("marks",.int (Yu z))::("n",.int (z.1/4096:Nat))::("k",.int k)::base k) hsub (bs:=[("k",.int (k:Nat))]) (YW rfl) ?_ (ih (k+1) (KK hk) _ (Yf fun p hp=> ?_))
     ·have atD:((Z.map fun z=>PV.int (z.1:Nat)))[(k:Int).toNat]? =some (.int z.1):=by rw[Int.toNat_natCast,List.getElem?_map,hz];rfl
      have atS:((Z.map fun z=>PV.str z.2))[(k:Int).toNat]? =some (.str z.2):=by rw[Int.toNat_natCast,List.getElem?_map,hz];rfl
      refine Xo (.int (z.1/4096:Nat)) ?_ (.inl rfl) rfl ?_
      ·exact XI (p:=.int z.1) (XY (p:=.lst (Z.map fun z=>.int (z.1:Nat))) (q:=.int k) (Xa rfl rfl rfl rfl) (Xa rfl rfl rfl rfl) (ZU hk60 atD) rfl) (q:=.int (4096:Nat)) Xe (YD (by decide) hz60)
      refine Xo (.int (Yu z)) ?_ (.inl rfl) rfl ?_
      ·unfold Yu
       refine YP (p:=.int ((if(Txt.contains z.2 (Str.ofString "\t")||((z.1/4096)/135%2:Nat)==1)=true then 1 else 0:Nat):Int)) ?_ rfl
       have e1:((((z.1/4096/135%2:Nat):Int))==(1:Int))=((z.1/4096/135%2:Nat)==1):=by
        rw[Bool.eq_iff_iff,beq_iff_eq,beq_iff_eq];exact Int.ofNat_inj (n:=1)
       refine Jp (x:=Txt.contains z.2 (Str.ofString "\t")||((z.1/4096)/135%2:Nat)==1) (Xk (Kf (a:=Txt.contains z.2 (Str.ofString "\t")) (Xj (p:=.str (Str.ofString "\t")) (q:=.str z.2) XK ?_ cmp_in_str rfl) fun _=>Kf (a:=((z.1/4096)/135%2:Nat)==1) (Xk (Xj (p:=.int ((z.1/4096)/135%2:Nat)) (q:=.int 1) ?_ Xe KE rfl) e1) fun _=>JH) ?_) ?_
       ·exact XY (p:=.lst (Z.map fun z=>.str z.2)) (q:=.int k) (Xa rfl rfl rfl rfl) (Xa rfl rfl rfl rfl) (ZU hk60 atS) rfl
       ·exact XI (p:=.int (z.1/4096/135:Nat)) (XI (p:=.int (z.1/4096:Nat)) (Xa rfl rfl rfl rfl) (q:=.int (135:Nat)) Xe (YD (by decide) hn60)) (q:=.int (2:Nat)) Xe (Yq (by decide))
       ·rw[Bool.or_false]
       ·cases Txt.contains z.2 (Str.ofString "\t")||((z.1/4096)/135%2:Nat)==1<;>exact Xe
      refine Xo (.str (Ys (Z.take (k+1)))) ?_ (.inl rfl) rfl YT
      have e3:Ys (Z.take (k+1))=Ys (Z.take k)++Str.sl (fmt z.2 (Yu z)) (some 1) none++one (Kt z.1):=by
       unfold Ys
       rw[List.take_add_one,hz,List.map_append,cat_append]
       show cat _++cat [Ug z]=_
       rw[cat_one,app_assoc];rfl
      have hl1:=page_len (Z.take k) fun y hy=>(hZ y (List.mem_of_mem_take hy)).2.2
      have hl2:(Z.take k).length≤100:=Nat.le_trans (List.length_take_le' k Z) hlen
      have b1:=Nat.le_trans (fmt_len z.2 (Yu z)) (Nat.add_le_add_right (Nat.mul_le_mul_left 4 hz3) 3)
      have b2:=Nat.add_le_add (Nat.le_trans hl1 (Nat.mul_le_mul_left 404 hl2)) (Nat.le_trans (VQ (fmt z.2 (Yu z)) (some 1) none) b1)
      have big:∀n:Nat,n≤50000→n≤sizeLine:=fun n h=>Nat.le_trans h (by decide +kernel)
      rw[e3]
      refine XI (p:=.str (Ys (Z.take k)++Str.sl (fmt z.2 (Yu z)) (some 1) none)) (XI (p:=.str (Ys (Z.take k))) (Xa rfl rfl rfl rfl) (YZ (q:=.str (fmt z.2 (Yu z))) ?_ (Yy (n:=1) Xe) YR (Ki (big _ (Nat.le_trans b1 (by decide))))) (bin_add_str (big _ (Nat.le_trans b2 (by decide))))) (q:=.str (one (Kt z.1))) ?_ (bin_add_str (big _ (by rw[Km];exact Nat.le_trans (Nat.add_le_add b2 (Nat.le_refl 1)) (by decide))))
      ·refine KS (ps:=[.str ⟨#[]⟩,.str z.2,.int (Yu z)]) (o:=o267 w.params) (fn_format w g z.2 (Yu z) hz2 hz3) ?_ (.inl rfl) (deep hd) rfl rfl rfl (by kernel_rfl) (by kernel_rfl) rfl ⟨_,rfl⟩
       refine Xc XK (Xc ?_ (Xc (Xa rfl rfl rfl rfl) Xd rfl) rfl) rfl
       exact XY (p:=.lst (Z.map fun z=>.str z.2)) (q:=.int k) (Xa rfl rfl rfl rfl) (Xa rfl rfl rfl rfl) (ZU hk60 atS) rfl
      ·have hm:z.1/4096/270%2=0∨z.1/4096/270%2=1:=Nat.mod_two_eq_zero_or_one _
       refine XY (p:=.str (Str.ofString " \n")) (q:=.int (z.1/4096/270%2:Nat)) XK (XI (p:=.int (z.1/4096/270:Nat)) (XI (p:=.int (z.1/4096:Nat)) (Xa rfl rfl rfl rfl) (q:=.int (270:Nat)) Xe (YD (by decide) hn60)) (q:=.int (2:Nat)) Xe (Yq (by decide))) ?_ rfl
       unfold Kt
       rcases hm with h |h<;>rw[h]
       ·exact item_of_str (x:=Str.ofString " \n") (i:=0) (by decide) (by decide +kernel)
       ·exact item_of_str (x:=Str.ofString " \n") (i:=1) (by decide) (by decide +kernel)
     ·rcases mem3 hp with rfl |rfl |rfl<;>rfl
   have:=key Z.length 0 (Nat.zero_add _) ((Str.ofString "page",PV.str ⟨#[]⟩)::(([Str.ofString "drawn",Str.ofString "spellings"]).zip [.lst (Z.map fun z=>.int (z.1:Nat)),.lst (Z.map fun z=>.str z.2)]).reverse) (Yf fun p hp=>by
    rcases mem3 hp with rfl |rfl |rfl<;>rfl)
   rw[←List.range_eq_range']at this
   exact this
  ·refine Ym (Xh ?_)
   have e:Ys Z=Ys (Z.take Z.length):=by rw[List.take_length]
   rw[e]
   exact Xa rfl rfl rfl rfl
theorem ZX{c:Cx}{x y:Str}:Zi c .Eq (.str x) (.str y) (x==y):=fun s v u hs h1 h2=>by
 rw[Rep]at h1 h2
 obtain⟨t,rfl⟩:=h1
 obtain⟨t',rfl⟩:=h2
 exact PyProof.Rows.eq_str ⟨rfl,.refl s⟩
theorem Ju{α:Type}(l:List α)(n:Nat):sl l none (some n)=l.take n:=by unfold sl;simp
noncomputable def kvPV(K:List (Str×Str)):PV:=.lst (K.map fun p=>.tup [.str p.1,.str p.2])
noncomputable def sndS:PV→PV
 | .tup [_,b]=>b
 |_=>.none
noncomputable def fstS:PV→Str
 | .tup [.str a,_]=>a
 |_=>⟨#[]⟩
noncomputable def dueR(K O:List (Str×Str))(x n:Nat):PV:=
 if 14∈(Xg x).take n then .int (Jr x:Nat)else
 .tup [.lst ((O.filter fun p=>Txt.startswith p.1 (cat ((XR x).take n))).map fun p=>.str p.2),
   if 15∈(Xg x).take n then .none else .lst ((K.filter fun p=>p.1==cat ((XR x).take n)).map fun p=>.str p.2)]
theorem Uk(K:List (Str×Str))(P:Str→Bool):((K.map fun p=>PV.tup [.str p.1,.str p.2]).filter fun v=>P (fstS v)).map sndS=(K.filter fun p=>P p.1).map fun p=>.str p.2:=by
 rw[List.filter_map,List.map_map]
 rfl
theorem mn_short(n k:Nat):(mnAt n k).length≤2:=by
 unfold mnAt
 rw[List.getD_eq_getElem?_getD]
 cases h:(mnL n)[k]? with
 |none=>exact Nat.zero_le _
 |some y=>
  have hm:y∈mnL n:=List.mem_of_getElem? h
  have hall:∀y∈mnL n,y.length≤2:=by
   intro y hy
   unfold mnL at hy
   simp only[List.mem_append,List.mem_cons,List.not_mem_nil,or_false]at hy
   rcases hy with(rfl |rfl |rfl |rfl |rfl |rfl |rfl |rfl |rfl |rfl) | (rfl |rfl |rfl |rfl |rfl |rfl)<;>first |exact(show 1≤2 by lia) |decide +kernel
  exact hall y hm
theorem mean_weight(x n:Nat):(((XR x).take n).map (·.length)).sum+((XR x).take n).length≤9:=by
 have h1:∀l:List Nat,((l.map (mnAt (x/4096))).map (·.length)).sum≤2*l.length:=fun l=>by
  induction l with
  |nil=>simp
  |cons a l ih=>have:=mn_short (x/4096) a;simp only[List.map_cons,List.sum_cons,List.length_cons];lia
 have h2:(XR x).take n=((Xg x).take n).map (mnAt (x/4096)):=by unfold XR;rw[List.map_take]
 have h3:((Xg x).take n).length≤3:=by rw[List.length_take];exact Nat.min_le_right _ _
 have h4:=h1 ((Xg x).take n)
 rw[h2,List.length_map]
 lia
theorem Ul(x n k:Nat):(((Xg x).take n).map fun k:Nat=>(k:Int)).any (· ==(k:Int))=decide (k∈(Xg x).take n):=by
 rw[List.any_map,Bool.eq_iff_iff,List.any_eq_true,decide_eq_true_eq]
 constructor
 ·rintro⟨y,hy,h⟩
  have h':(y:Int)=(k:Int):=by simpa using h
  have:y=k:=by lia
  exact this▸hy
 ·intro h
  exact⟨k,h,by simp⟩
theorem ite_dec{P:Prop}[Decidable P]{α:Type}(a b:α):(if P then a else b)=if decide P=true then a else b:=by by_cases h:P<;>simp[h]
theorem fn_due(w:World)(g:Nat→Obj)(K O:List (Str×Str))(x n:Nat)(hK:K.length≤100)(hO:O.length≤100)(hn:n≤3):FnOk w g false 1 (.ref 433) [kvPV K,kvPV O,Xw x,.int n] (dueR K O x n):=by
 refine fn_cells (n:=0) (fd:=fdOf (o433 w.params)) (body:=fdB (stN 35)) (a:=433) (c':=432) (ns:=["kept","ordered","name","count"]) (o:=o433 w.params) (oc:=o432 w.params) (cvs:=Xn (o432 w.params)) (ct:=3054) (by kernel_rfl) rfl (by kernel_rfl) (by kernel_rfl) (by kernel_rfl) rfl (by kernel_rfl) (by kernel_rfl) (by kernel_rfl) ?_ (by kernel_rfl) (by kernel_rfl) (by kernel_rfl) (by kernel_rfl) (by kernel_rfl) (by kernel_rfl) (by kernel_rfl) ?_
 ·intro vs hv
  obtain⟨a,b,c,d,rfl⟩:=len4 hv
  kernel_rfl
 ·intro V A L hh hL hd
  conv=>arg 2;whnf
  have l3:∀n:Nat,n≤100→n≤sizeLine:=fun n h=>Nat.le_trans h (by decide +kernel)
  refine Xo (.lst ((((Xg x).take n).map fun k:Nat=>(k:Int)).map PV.int)) ?_ (.inl rfl) rfl ?_
  ·refine YP (p:=.lst (sl ((Xg x).map fun k:Nat=>PV.int (k:Int)) none (some n))) ?_ (by rw[Ju,←List.map_take,List.map_map];rfl)
   exact YZ (q:=.lst ((Xg x).map fun k:Nat=>PV.int (k:Int))) (XY (p:=Xw x) (q:=.int 2) (Xa rfl rfl rfl rfl) Xe (XX (by decide) (by decide) rfl) rfl) YR (Yy (Xa rfl rfl rfl rfl)) (Jm (by rw[List.length_map];exact l3 3 (by decide)))
  have hres:dueR K O x n=(if decide (14∈(Xg x).take n)then .int (Jr x:Nat)else
   .tup [.lst ((O.filter fun p=>Txt.startswith p.1 (cat ((XR x).take n))).map fun p=>.str p.2),
     if 15∈(Xg x).take n then .none else .lst ((K.filter fun p=>p.1==cat ((XR x).take n)).map fun p=>.str p.2)]):=by
   unfold dueR
   exact ite_dec _ _
  rw[hres]
  have ho:∀(b:Bool) (p q:PV),Out.ret (if b then p else q)=if b then .ret p else .ret q:=fun b p q=>by cases b<;>rfl
  rw[ho]
  refine ZR (b:=decide (14∈(Xg x).take n)) (Xk (Xj (p:=.int 14) (q:=.lst ((((Xg x).take n).map fun k:Nat=>(k:Int)).map PV.int)) Xe (Xa rfl rfl rfl rfl) Za rfl) (Ul x n 14)) (fun _=>Yg (Xh ?_)) fun _=> ?_
  ·exact XY (p:=Xw x) (q:=.int 3) (Xa rfl rfl rfl rfl) Xe (XX (by decide) (by decide) rfl) rfl
  refine Xo (.str (cat ((XR x).take n))) ?_ (.inr ⟨rfl,rfl⟩) rfl ?_
  ·have hw:=mean_weight x n
   refine UG (xs:=(XR x).take n) XK ?_ rfl rfl rfl (by lia)
   refine YP (p:=.lst (sl ((XR x).map PV.str) none (some n))) ?_ (by rw[Ju,←List.map_take])
   exact YZ (q:=.lst ((XR x).map PV.str)) (XY (p:=Xw x) (q:=.int 1) (Xa rfl rfl rfl rfl) Xe (XX (by decide) (by decide) rfl) rfl) YR (Yy (Xa rfl rfl rfl rfl)) (Jm (by rw[List.length_map];exact l3 3 (by decide)))
  have kv_at:∀(K:List (Str×Str)) (i:Nat) (p:PV),(K.map fun p=>PV.tup [.str p.1,.str p.2])[i]? =some p→∃a b,p= .tup [.str a,.str b]:=fun K i p hp=>by
   rw[List.getElem?_map]at hp
   obtain⟨k,hk,rfl⟩:=Option.map_eq_some_iff.mp hp
   exact⟨_,_,rfl⟩
  refine Xo (if 15∈(Xg x).take n then .none else .lst ((K.filter fun p=>p.1==cat ((XR x).take n)).map fun p=>.str p.2)) ?_ (.inl rfl) rfl ?_
  ·have he:(if 15∈(Xg x).take n then PV.none else .lst ((K.filter fun p=>p.1==cat ((XR x).take n)).map fun p=>.str p.2))=(if decide (15∈(Xg x).take n)=true then PV.none else .lst ((K.filter fun p=>p.1==cat ((XR x).take n)).map fun p=>.str p.2)):=by
    exact ite_dec _ _
   rw[he]
   refine Jp (x:=decide (15∈(Xg x).take n)) (Xk (Xj (p:=.int 15) (q:=.lst ((((Xg x).take n).map fun k:Nat=>(k:Int)).map PV.int)) Xe (Xa rfl rfl rfl rfl) Za rfl) (Ul x n 15)) ?_
   cases decide (15∈(Xg x).take n)with
   |true=>exact YI
   |false=>
    show EvOk _ _ (.lst ((K.filter fun p=>p.1==cat ((XR x).take n)).map fun p=>.str p.2))
    rw[←Uk K fun m=>m==cat ((XR x).take n)]
    refine Jf (by kernel_rfl) [("head",L+1)] [("head",.str (cat ((XR x).take n)))] (fun v=>fstS v==cat ((XR x).take n)) sndS (YF (Xa rfl rfl rfl rfl) YX) (by rw[List.length_map];exact l3 _ hK) rfl (by kernel_rfl) (by kernel_rfl) rfl (fun _=>rfl) (UR rfl) (KN rfl rfl fun _=>rfl) ?_
    intro C V' hC i p hp
    obtain⟨a,b,rfl⟩:=kv_at K i p hp
    refine⟨[("word",.str b),("meaning",.str a)],tgt_pair rfl rfl,Ke ?_,fun _=> ?_⟩
    ·exact Xj (p:=.str a) (q:=.str (cat ((XR x).take n))) (Xa rfl rfl rfl rfl) (Xa rfl rfl rfl rfl) ZX rfl
    ·exact Xa rfl rfl rfl rfl
  ·refine Ym (Xh (Yp (Xc ?_ (Xc (Xa rfl rfl rfl rfl) Xd rfl) rfl) (show 2≤sizeLine by decide +kernel)))
   rw[←Uk O fun m=>Txt.startswith m (cat ((XR x).take n))]
   refine Jf (by kernel_rfl) [("head",L+1)] [("head",.str (cat ((XR x).take n)))] (fun v=>Txt.startswith (fstS v) (cat ((XR x).take n))) sndS (YF (Xa rfl rfl rfl rfl) YX) (by rw[List.length_map];exact l3 _ hO) rfl (by kernel_rfl) (by kernel_rfl) rfl (fun _=>rfl) (UR rfl) (KN rfl rfl fun _=>rfl) ?_
   intro C V' hC i p hp
   obtain⟨a,b,rfl⟩:=kv_at O i p hp
   refine⟨[("word",.str b),("meaning",.str a)],tgt_pair rfl rfl,Ke ?_,fun _=> ?_⟩
   ·exact Yr (ev_startswith (x:=a) (y:=cat ((XR x).take n)) (Xa rfl rfl rfl rfl) (Xa rfl rfl rfl rfl) rfl rfl rfl) YL rfl
   ·exact Xa rfl rfl rfl rfl
inductive WhR(c:Cx)(test:PySem.Expr)(body:List Stmt):Nat→List (Str×PV)→Out→Prop
 |done {n ρ ρ₀} (h:Sub ρ₀ ρ) (ht:XE (c.wr ρ₀) test false):WhR c test body n ρ (.next ρ₀)
 |next {n ρ ρ₀ ρ₁ o} (h:Sub ρ₀ ρ) (ht:XE (c.wr ρ₀) test true) (hb:XU (c.wr ρ₀) body (.next ρ₁)) (hr:WhR c test body n ρ₁ o):WhR c test body (n+1) ρ o
theorem stm_while{c:Cx}{test:PySem.Expr}{body:List Stmt}{pos:Pos}{n:Nat}{ρ:List (Str×PV)}{o:Out}(h:WhR c test body n ρ o):ZY (c.wr ρ) (.While test body [] pos) o:=.mk fun s hs=>by
 refine wpAny_While ?_
 refine codeAny_whileLoop (fun k s'=>∃ρ',WhR c test body k ρ' o∧(c.wr ρ').St s'∧KpF c.lam c.fr s s') ?_ n ⟨ρ,h,hs,.of (.refl s)⟩
 rintro k s' ⟨ρ',hR,st',kf⟩
 cases hR with
 |done hsub ht=>
  refine wpAny_mono (ht.go s' (st'.sub hsub)) (fun b s₂ q=> ?_) fun _ _ x=>x.elim
  obtain⟨rfl,k₂⟩:=q
  exact wpAny_execs_nil ⟨⟨rfl,(st'.sub hsub).kp k₂⟩,kf.trans (.of k₂)⟩
 |next hsub ht hb hr=>
  refine wpAny_mono (ht.go s' (st'.sub hsub)) (fun b s₂ q=> ?_) fun _ _ x=>x.elim
  obtain⟨rfl,k₂⟩:=q
  refine wpAny_mono (hb.go s₂ ((st'.sub hsub).kp k₂)) (fun f s₃ q=> ?_) fun _ _ x=>x.elim
  obtain⟨⟨rfl,st₃⟩,k₃⟩:=q
  exact⟨_,Nat.lt_succ_self _,_,hr,st₃,(kf.trans (.of k₂)).trans k₃⟩
noncomputable def XO(objs:List (Addr×Obj))(s:Shared):Prop:=∀p∈objs,s.heap.get? p.1=some p.2
theorem XO.kpf{objs:List (Addr×Obj)}{l:Bool}{F:List Addr}{s s':Shared}(h9:∀p∈objs,439≤p.1)(hF:∀p∈objs,p.1∉F)(x:XO objs s)(k:KpF l F s s'):XO objs s':=fun p hp=>k.get (Xv (h9 p hp)) (hF p hp) (x p hp)
theorem XO.kp{objs:List (Addr×Obj)}{l:Bool}{s s':Shared}(h9:∀p∈objs,439≤p.1)(x:XO objs s)(k:Kp l s s'):XO objs s':=fun p hp=>k.get (Xv (h9 p hp)) (x p hp)
noncomputable def Kc(w:World)(g:Nat→Obj)(l:Bool)(n:Nat)(objs:List (Addr×Obj))(f:Value)(ps:List PV)(r:PV):Prop:=∀A:Around,A.handled=none→A.depth+n<recursionLimit→∀V s vs,Base w g s→Yd V s.heap→XO objs s→Xb V s.heap ps vs→
 wpAny (model pw w) A (PySem.call f vs) (fun x s'=>Rep V s'.heap r x∧Kp l s s') (fun _ _=>False) s
noncomputable def bis(go:Nat→Bool):(fuel lo hi:Nat)→Nat
 |0,lo,_=>lo
 |n+1,lo,hi=>if lo<hi then(if go ((lo+hi)/2)then bis go n ((lo+hi)/2+1) hi else bis go n lo ((lo+hi)/2))else lo
noncomputable def ltS(x y:Str):Bool:=decide (x.cps.toList<y.cps.toList)
section
variable{c:Cx}
theorem cmp_lt_str{x y:Str}:Zi c .Lt (.str x) (.str y) (ltS x y):=fun s v u hs h1 h2=>by
 rw[Rep]at h1 h2
 obtain⟨t,rfl⟩:=h1
 obtain⟨t',rfl⟩:=h2
 exact PySem.P.lt_str ⟨rfl,.refl s⟩
theorem ev_callX{f:PySem.Str}{np pos:Pos}{es:List PySem.Expr}{ps:List PV}{a:Addr}{r:PV}(hf:EvOk c (.Name f np) (.val (.ref a)))(ha:YK c pos es ps)(hn:es.all (fun e=> !XV e)=true)(hfun:∃o fd,∀s,c.St s→s.heap.get? a=some o∧o.data= .func fd)
(hc:ZZ c (.ref a) ps r):EvOk c (.Call (.Name f np) es [] pos) r:=.mk fun s hs=>by
 show wpAny _ _ (eval (.Name f np) c.env >>= fun f=>callWith pos f [] (backTo pos (starEach es c.env)) (backToKw pos (keywordEach [] c.env))) _ _ s
 refine wpAny_bind (Xi hf hs fun v s₁ r₁ k₁ st₁=> ?_)
 rw[Rep]at r₁
 subst r₁
 obtain⟨o,fd,hd⟩:=hfun
 refine callWith_function (o:=o) (fd:=fd) (YA ha hn st₁ fun vs s' q k=>⟨hd s' (st₁.kp k),wpAny_mono (hc s' vs (st₁.kp k) q) (fun v s'' q'=>⟨q'.1,(k₁.trans k).trans q'.2⟩) fun _ _ x=>x⟩)
theorem call_key{n:Nat}{objs:List (Addr×Obj)}{f:Value}{ps:List PV}{r:PV}{l:Bool}(h:Kc c.w c.g l n objs f ps r)(hX:∀s,c.X s→XO objs s)(hl:l=false∨l=c.lam)(hd:c.A.depth+n<recursionLimit):ZZ c f ps r:=fun s vs hs hv=>by
 refine wpAny_mono (h c.A c.hh hd c.V s vs hs.1 hs.2.1.vol (hX s hs.2.2) hv) (fun x s' q=>⟨q.1,?_⟩) fun _ _ x=>x
 rcases hl with rfl |rfl
 ·exact q.2.weak
 ·exact q.2
end
noncomputable def elt0:PV:=.none
noncomputable def bN(ps:List PV)(x:Str)(ka:Addr)(lo hi:Nat):List (Str×PV):=[("lo",.int lo),("hi",.int hi),("a",.lst ps),("x",.str x),("key",.val (.ref ka))]
structure BE(c:Cx):Prop where
 lo:c.env.kindOf "lo"=some .local
 hi:c.env.kindOf "hi"=some .local
 a:c.env.kindOf "a"=some .local
 x:c.env.kindOf "x"=some .local
 key:c.env.kindOf "key"=some .local
 mid:c.env.kindOf "mid"=some .local
 len:c.env.kindOf "len"=some .globalImplicit
theorem YV{c:Cx}{x:Str}{pos:Pos}{pv:PV}(hk:c.env.kindOf x=some .local)(hx:c.ρ.lookup x=some pv)(hd:(x==("__debug__":Str))=false)(hd':(x==("__classdict__":Str))=false):EvOk c (.Name x pos) pv:=
 Xa hx (by rw[hk]) hd hd'
section
variable{c:Cx}{ps:List PV}{x:Str}{ka:Addr}{lo hi m:Nat}(E:BE c)
include E
theorem bis_lo{q1 q2 q3 q4 q5:Pos}:XU (c.wr (("mid",.int (m:Nat))::bN ps x ka lo hi)) [.Assign [.Name "lo" q1] (.BinOp (.Name "mid" q2) .Add (.Constant (.int 1) 0 q3) q4) q5] (.next (("lo",.int (m+1:Nat))::("mid",.int m)::bN ps x ka lo hi)):=
 Xo (.int (m+1:Nat)) (YP (XI (p:=.int m) (YV E.mid rfl rfl rfl) (q:=.int (1:Nat)) Xe Jh) (by rw[Int.natCast_add])) (.inl E.lo) rfl YT
theorem bis_hi{q1 q2 q5:Pos}:XU (c.wr (("mid",.int (m:Nat))::bN ps x ka lo hi)) [.Assign [.Name "hi" q1] (.Name "mid" q2) q5] (.next (("hi",.int m)::("mid",.int m)::bN ps x ka lo hi)):=
 Xo (.int m) (YV E.mid rfl rfl rfl) (.inl E.hi) rfl YT
theorem bis_key{f:PV→Str}{n:Nat}{objs:List (Addr×Obj)}{q1 q2 q3 q4 q5:Pos}(hm:m<ps.length)(hps:ps.length≤1000)(hkey:∀p∈ps,Kc c.w c.g c.lam n objs (.ref ka) [p] (.str (f p)))(hfun:∃o fd,(ka,o)∈objs∧o.data= .func fd)(hX:∀s,c.X s→XO objs s)(hd:c.A.depth+n<recursionLimit):
 EvOk (c.wr (("mid",.int (m:Nat))::bN ps x ka lo hi)) (.Call (.Name "key" q1) [.Subscript (.Name "a" q2) (.Name "mid" q3) q4] [] q5) (.str (f (ps.getD m elt0))):=by
 have hget:ps[m]? =some (ps.getD m elt0):=by rw[List.getD_eq_getElem?_getD,List.getElem?_eq_getElem hm];rfl
 exact ev_callX (ps:=[ps.getD m elt0]) (YV E.key rfl rfl rfl) (Xc (XY (p:=.lst ps) (q:=.int m) (YV E.a rfl rfl rfl) (YV E.mid rfl rfl rfl) (ZU (Nat.lt_of_lt_of_le hm (Nat.le_trans hps (by decide))) (by rw[Int.toNat_natCast];exact hget)) rfl) Xd rfl) rfl (let⟨o,fd,h1,h2⟩:=hfun;⟨o,fd,fun s hs=>⟨hX s hs.2.2 _ h1,h2⟩⟩) (call_key (hkey _ (List.mem_of_getElem? hget)) hX (.inr rfl) hd)
theorem UI{q1 q2 q3:Pos}{b:Bool}(h:decide (lo<hi)=b):XE (c.wr (bN ps x ka lo hi)) (.Compare (.Name "lo" q1) [.Lt] [.Name "hi" q2] q3) b:=
 Xk (Xj (p:=.int lo) (q:=.int hi) (YV E.lo rfl rfl rfl) (YV E.hi rfl rfl rfl) Zx rfl) (h▸decide_eq_decide.mpr Int.ofNat_lt)
theorem bis_loop{Q:Nat→Bool}{tt:PySem.Expr}{b1 b2:List Stmt}{q1 q2 q3 q4 q5 q6 q7 q8 q9 q10 q11:Pos}(hps:ps.length≤1000)
(hif:∀lo hi,(lo+hi)/2<ps.length→∃b,XE (c.wr (("mid",.int ((lo+hi)/2:Nat))::bN ps x ka lo hi)) tt b∧XU (c.wr (("mid",.int ((lo+hi)/2:Nat))::bN ps x ka lo hi)) (if b then b1 else b2) (.next (if Q ((lo+hi)/2)then("lo",.int ((lo+hi)/2+1:Nat))::("mid",.int ((lo+hi)/2:Nat))::bN ps x ka lo hi else("hi",.int ((lo+hi)/2:Nat))::("mid",.int ((lo+hi)/2:Nat))::bN ps x ka lo hi))):
 ∀(fuel lo hi:Nat),hi≤ps.length→hi≤lo+fuel→∀ρ,Sub (bN ps x ka lo hi) ρ→∃hi':Nat,WhR c (.Compare (.Name "lo" q1) [.Lt] [.Name "hi" q2] q3) [.Assign [.Name "mid" q4] (.BinOp (.BinOp (.Name "lo" q5) .Add (.Name "hi" q6) q7) .FloorDiv (.Constant (.int 2) 0 q8) q9) q10,.If tt b1 b2 q11] fuel ρ (.next (bN ps x ka (bis Q fuel lo hi) hi')):=by
 intro fuel
 induction fuel with
 |zero=>
  intro lo hi h1 h2 ρ hsub
  exact⟨hi,.done hsub (UI E (decide_eq_false (Nat.not_lt.mpr h2)))⟩
 |succ fuel ih=>
  intro lo hi h1 h2 ρ hsub
  by_cases hlt:lo<hi
  ·obtain⟨hm',hm⟩:=Vw hlt
   obtain⟨b,ht,hb⟩:=hif lo hi (Nat.lt_of_lt_of_le hm h1)
   have hh:=Nat.le_trans h1 hps
   have step:XU (c.wr (bN ps x ka lo hi)) [.Assign [.Name "mid" q4] (.BinOp (.BinOp (.Name "lo" q5) .Add (.Name "hi" q6) q7) .FloorDiv (.Constant (.int 2) 0 q8) q9) q10,.If tt b1 b2 q11] _:=Xo (.int ((lo+hi)/2:Nat)) (XI (p:=.int ((lo+hi:Nat):Int)) (YP (XI (YV E.lo rfl rfl rfl) (YV E.hi rfl rfl rfl) Jh) (by rw[Int.natCast_add])) (q:=.int (2:Nat)) Xe (YD (by decide) (Nat.lt_of_le_of_lt (Nat.add_le_add (Nat.le_trans (Nat.le_of_lt hlt) hh) hh) (by decide)))) (.inl E.mid) rfl (Ym (Zb ht hb))
   rw[bis,if_pos hlt]
   generalize (lo+hi)/2=m at hm hm' step
   cases hQ:Q m with
   |true=>
    rw[hQ]at step
    obtain⟨hi',hW⟩:=ih (m+1) hi h1 (Nat.le_trans h2 (Nat.le_trans (Nat.le_of_eq (Nat.succ_add_eq_add_succ lo fuel).symm) (Nat.add_le_add_right (Nat.succ_le_succ hm') fuel))) (("lo",.int (m+1:Nat))::("mid",.int m)::bN ps x ka lo hi) (Yf fun p hp=>by
     rcases mem5 hp with rfl |rfl |rfl |rfl |rfl<;>rfl)
    exact⟨hi',.next hsub (UI E (decide_eq_true hlt)) step hW⟩
   |false=>
    rw[hQ]at step
    obtain⟨hi',hW⟩:=ih lo m (Nat.le_trans (Nat.le_of_lt hm) h1) (Nat.le_of_lt_succ (Nat.lt_of_lt_of_le hm h2)) (("hi",.int m)::("mid",.int m)::bN ps x ka lo hi) (Yf fun p hp=>by
     rcases mem5 hp with rfl |rfl |rfl |rfl |rfl<;>rfl)
    exact⟨hi',.next hsub (UI E (decide_eq_true hlt)) step hW⟩
  ·rw[bis,if_neg hlt]
   exact⟨hi,.done hsub (UI E (decide_eq_false hlt))⟩
theorem bis_body{Q:Nat→Bool}{tt:PySem.Expr}{b0 b1 b2 bw:List Stmt}{q1 q2 q3 q4 q5 q6 q7 q8 q9 q10 q11 r1 r2 r3 r4 r5 r6 r7 r8 r9 ra rb rc rd re rf rg rh ri rj rk:Pos}(hps:ps.length≤1000)(hlo:lo≤ps.length)
(hif:∀lo hi,(lo+hi)/2<ps.length→∃b,XE (c.wr (("mid",.int ((lo+hi)/2:Nat))::bN ps x ka lo hi)) tt b∧XU (c.wr (("mid",.int ((lo+hi)/2:Nat))::bN ps x ka lo hi)) (if b then b1 else b2) (.next (if Q ((lo+hi)/2)then("lo",.int ((lo+hi)/2+1:Nat))::("mid",.int ((lo+hi)/2:Nat))::bN ps x ka lo hi else("hi",.int ((lo+hi)/2:Nat))::("mid",.int ((lo+hi)/2:Nat))::bN ps x ka lo hi))):
 XU (c.wr [("key",.val (.ref ka)),("hi",.none),("lo",.int lo),("x",.str x),("a",.lst ps)]) [.If (.Compare (.Name "lo" r1) [.Lt] [.Constant (.int 0) 0 r2] r3) b0 [] r4,
  .If (.Compare (.Name "hi" r5) [.Is] [.Constant .none 0 r6] r7) [.Assign [.Name "hi" r8] (.Call (.Name "len" r9) [.Name "a" ra] [] rb) rc] [] rd,
  .If (.Compare (.Name "key" re) [.Is] [.Constant .none 0 rf] rg) bw [.While (.Compare (.Name "lo" q1) [.Lt] [.Name "hi" q2] q3) [.Assign [.Name "mid" q4] (.BinOp (.BinOp (.Name "lo" q5) .Add (.Name "hi" q6) q7) .FloorDiv (.Constant (.int 2) 0 q8) q9) q10,.If tt b1 b2 q11] [] rh] ri,
  .Return (some (.Name "lo" rj)) rk] (.ret (.int (bis Q (ps.length+1) lo ps.length:Nat))):=by
 obtain⟨hi',hW⟩:=bis_loop (q1:=q1) (q2:=q2) (q3:=q3) (q4:=q4) (q5:=q5) (q6:=q6) (q7:=q7) (q8:=q8) (q9:=q9) (q10:=q10) (q11:=q11) E hps hif (ps.length+1) lo ps.length (Nat.le_refl _) (Nat.le_trans (Nat.le_succ _) (Nat.le_add_left _ _)) [("hi",.int ps.length),("key",.val (.ref ka)),("hi",.none),("lo",.int lo),("x",.str x),("a",.lst ps)] (Yf fun p hp=>by
  rcases mem5 hp with rfl |rfl |rfl |rfl |rfl<;>rfl)
 refine Yj (Zb (b:=false) (Xk (Xj (p:=.int lo) (q:=.int 0) (YV E.lo rfl rfl rfl) Xe Zx rfl) (decide_eq_false (Int.not_lt.mpr (Int.natCast_nonneg _)))) YT) ?_
 refine Yj (Zb (b:=true) (Xk (Xj (p:=.none) (q:=.none) (YV E.hi rfl rfl rfl) YI (JW rfl) rfl) rfl) (Xo (.int ps.length) (XQ (fv:=.builtin "len") (ps:=[.lst ps]) (Xm E.len (by kernel_rfl) (by kernel_rfl) rfl) (Xc (YV E.a rfl rfl rfl) Xd rfl) rfl (.inl ⟨_,rfl⟩) (ZO (Nat.lt_of_le_of_lt hps (by decide)))) (.inl E.hi) rfl YT)) ?_
 refine Yj (Zb (b:=false) (Xk (Xj (p:=.val (.ref ka)) (q:=.none) (YV E.key rfl rfl rfl) YI (JW rfl) rfl) rfl) (Ym (stm_while hW))) ?_
 exact Yg (Xh (YV E.lo rfl rfl rfl))
end
theorem bisR_ok{w:World}{g:Nat→Obj}{l:Bool}{n:Nat}{objs:List (Addr×Obj)}{ka:Addr}{f:PV→Str}{ps:List PV}{x:Str}{lo:Nat}(hps:ps.length≤1000)(hlo:lo≤ps.length)(hkey:∀p∈ps,Kc w g l n objs (.ref ka) [p] (.str (f p)))(hfun:∃o fd,(ka,o)∈objs∧o.data= .func fd)(h9:∀p∈objs,439≤p.1)
{A:Around}(hh:A.handled=none)(hdep:A.depth+(n+1)<recursionLimit){V:List Addr}{s:Shared}{av xv lv:Value}{args:List Value}{kw:List (Str×Value)}(B:Base w g s)(hV:Yd V s.heap)(hXO:XO objs s)(ha:Rep V s.heap (.lst ps) av)(hx:Rep V s.heap (.str x) xv)(hl:Rep V s.heap (.int lo) lv)
(hbind:∀S,peek [(185,o185 w.params),(186,o186 w.params)] S (bindArgs (fdOf (o193 w.params)) ⟨args,kw⟩)=some ([("a",av),("x",xv),("lo",lv),("hi",.none),("key",.ref ka)]:List (Str×Value))):
 wpAny (model pw w) A (PySem.call (.ref 193) args kw) (fun v s'=>(∃t,v= .int (bis (fun i=> !ltS x (f (ps.getD i elt0))) (ps.length+1) lo ps.length:Nat) t)∧Kp l s s') (fun _ _=>False) s:=by
 have live:∀p∈objs,p.1≠s.heap.objs.size:=fun p hp=>Nat.ne_of_lt (Heap.lt_size (hXO p hp))
 have hK:Frag.In [(185,o185 w.params),(186,o186 w.params)] s.heap:=XD (w:=w) (g:=g) B fun p hp=>by
  rcases mem2 hp with rfl |rfl<;>exact⟨rfl,by kernel_rfl⟩
 have hX:∀s₁ s',XO objs s₁→KpF l (s.heap.objs.size::(fdOf (o193 w.params)).closure.map (fun x:Str×Addr=>x.2)) s₁ s'→XO objs s':=fun s₁ s' x k=>XO.kpf h9 (fun p hp hm=>by
  rcases List.mem_cons.mp hm with q |q
  ·exact live p hp q
  ·have e:(fdOf (o193 w.params)).closure=[]:=by kernel_rfl
   rw[e]at q;cases q) x k
 refine Zh (l:=l) (ρb:=((["a","x","lo","hi","key"]:List Str).zip [.lst ps,.str x,.int lo,PV.none,.val (.ref ka)]).reverse) (ρf:=[]) (X:=XO objs) (fd:=fdOf (o193 w.params)) (body:=fdB (stN 18)) (o:=o193 w.params) (binds:=[("a",av),("x",xv),("lo",lv),("hi",.none),("key",.ref ka)]) hh (by lia) B hV (B.1 193 _ rfl (by kernel_rfl)) (by kernel_rfl)
  ⟨192,o192 w.params,Xn (o192 w.params),2654,by kernel_rfl,B.1 192 _ rfl (by kernel_rfl),by kernel_rfl,by kernel_rfl⟩ (by kernel_rfl) (kp_binds hK hbind) (by kernel_rfl) ?_ (by kernel_rfl) (by kernel_rfl) (by kernel_rfl) (by kernel_rfl) (by kernel_rfl) ?_ (fun x q hx=>by simp at hx) ?_ ?_ hX hXO (fun s₁ k htk st=> ?_)
 ·have hall:((["a","x","lo","hi","key"]:List Str).all fun y=>decide ((fdOf (o193 w.params)).scope.names.lookup y=some .local))=true:=by kernel_rfl
  intro y hy
  refine of_decide_eq_true (List.all_eq_true.mp hall y.1 ?_)
  rcases mem5 hy with rfl |rfl |rfl |rfl |rfl<;>simp
 ·intro y q hy
  exact XN (x:=y) (q:=q) (ns:=["a","x","lo","hi","key"]) (Xl ha (Xl hx (Xl hl (Xl JL (Xl Xy XW))))) (acc:=[]) (acc':=[]) (fun y q hq=>by simp at hq) y q hy
 ·intro y c hy
  have e:(fdOf (o193 w.params)).closure=[]:=by kernel_rfl
  rw[e]at hy;simp at hy
 ·intro y z c hy
  have e:(fdOf (o193 w.params)).closure=[]:=by kernel_rfl
  rw[e]at hy;simp at hy
 ·let c:Cx:={w:=w,g:=g,A:=A.deeper (callEnv (fdOf (o193 w.params)) s.heap.objs.size 193),env:=callEnv (fdOf (o193 w.params)) s.heap.objs.size 193,ρ:=[],lam:=l,V:=V,X:=XO objs,hX:=hX,hh:=hh,kind:=by kernel_rfl,globs:=by kernel_rfl,blts:=by kernel_rfl,ground:=Xs w g}
  have hb:XU (Cx.wr c (([("key",.val (.ref ka)),("hi",.none),("lo",.int lo),("x",.str x),("a",.lst ps)]:List (Str×PV))++[])) (fdB (stN 18)) (.ret (.int (bis (fun i=> !ltS x (f (ps.getD i elt0))) (ps.length+1) lo ps.length:Nat))):=by
   conv=>arg 2;whnf
   have E:BE c:=⟨by kernel_rfl,by kernel_rfl,by kernel_rfl,by kernel_rfl,by kernel_rfl,by kernel_rfl,by kernel_rfl⟩
   refine bis_body (Q:=fun i=> !ltS x (f (ps.getD i elt0))) E hps hlo fun lo hi hm=>⟨ltS x (f (ps.getD ((lo+hi)/2) elt0)),?_,?_⟩
   ·have K:=fun{q1 q2 q3 q4 q5}=>bis_key (c:=c) (x:=x) (lo:=lo) (hi:=hi) (q1:=q1) (q2:=q2) (q3:=q3) (q4:=q4) (q5:=q5) E hm hps hkey hfun (fun _ h=>h) (deep hdep (Nat.le_refl _))
    exact(Xj (p:=.str x) (q:=.str (f (ps.getD ((lo+hi)/2) elt0))) (YV E.x rfl rfl rfl) K cmp_lt_str rfl)
   ·
    show XU _ (if ltS x (f (ps.getD ((lo+hi)/2) elt0))then _ else _) (.next (if(!ltS x (f (ps.getD ((lo+hi)/2) elt0)))then _ else _))
    cases ltS x (f (ps.getD ((lo+hi)/2) elt0))with
    |true=>exact bis_hi E
    |false=>exact bis_lo E
  refine wpAny_mono (hb.go s₁ st) (fun f' s' q=> ?_) fun _ _ x=>x.elim
  obtain⟨⟨v,rfl,hv⟩,k'⟩:=q
  rw[Rep]at hv
  refine⟨hv,?_⟩
  obtain⟨h1,t1,rfl,kk⟩:=k
  obtain⟨h',t',rfl,kk'⟩:=k'
  refine⟨h',t',rfl,fun b o n e=>kk' b o n (fun m=> ?_) (kk b o rfl e)⟩
  have hb:=Heap.lt_size e
  rcases List.mem_cons.mp m with q |q
  ·have:b=s.heap.objs.size:=q
   exact absurd this (Nat.ne_of_lt hb)
  ·have q':b∈(fdOf (o193 w.params)).closure.map (fun x:Str×Addr=>x.2):=q
   have e2:(fdOf (o193 w.params)).closure=[]:=by kernel_rfl
   rw[e2]at q';cases q'
theorem bisL_ok{w:World}{g:Nat→Obj}{l:Bool}{n:Nat}{objs:List (Addr×Obj)}{ka:Addr}{f:PV→Str}{ps:List PV}{x:Str}{lo:Nat}(hps:ps.length≤1000)(hlo:lo≤ps.length)(hkey:∀p∈ps,Kc w g l n objs (.ref ka) [p] (.str (f p)))(hfun:∃o fd,(ka,o)∈objs∧o.data= .func fd)(h9:∀p∈objs,439≤p.1)
{A:Around}(hh:A.handled=none)(hdep:A.depth+(n+1)<recursionLimit){V:List Addr}{s:Shared}{av xv lv:Value}{args:List Value}{kw:List (Str×Value)}(B:Base w g s)(hV:Yd V s.heap)(hXO:XO objs s)(ha:Rep V s.heap (.lst ps) av)(hx:Rep V s.heap (.str x) xv)(hl:Rep V s.heap (.int lo) lv)
(hbind:∀S,peek [(194,o194 w.params),(195,o195 w.params)] S (bindArgs (fdOf (o202 w.params)) ⟨args,kw⟩)=some ([("a",av),("x",xv),("lo",lv),("hi",.none),("key",.ref ka)]:List (Str×Value))):
 wpAny (model pw w) A (PySem.call (.ref 202) args kw) (fun v s'=>(∃t,v= .int (bis (fun i=>ltS (f (ps.getD i elt0)) x) (ps.length+1) lo ps.length:Nat) t)∧Kp l s s') (fun _ _=>False) s:=by
 have live:∀p∈objs,p.1≠s.heap.objs.size:=fun p hp=>Nat.ne_of_lt (Heap.lt_size (hXO p hp))
 have hK:Frag.In [(194,o194 w.params),(195,o195 w.params)] s.heap:=XD (w:=w) (g:=g) B fun p hp=>by
  rcases mem2 hp with rfl |rfl<;>exact⟨rfl,by kernel_rfl⟩
 have hX:∀s₁ s',XO objs s₁→KpF l (s.heap.objs.size::(fdOf (o202 w.params)).closure.map (fun x:Str×Addr=>x.2)) s₁ s'→XO objs s':=fun s₁ s' x k=>XO.kpf h9 (fun p hp hm=>by
  rcases List.mem_cons.mp hm with q |q
  ·exact live p hp q
  ·have e:(fdOf (o202 w.params)).closure=[]:=by kernel_rfl
   rw[e]at q;cases q) x k
 refine Zh (l:=l) (ρb:=((["a","x","lo","hi","key"]:List Str).zip [.lst ps,.str x,.int lo,PV.none,.val (.ref ka)]).reverse) (ρf:=[]) (X:=XO objs) (fd:=fdOf (o202 w.params)) (body:=fdB (stN 19)) (o:=o202 w.params) (binds:=[("a",av),("x",xv),("lo",lv),("hi",.none),("key",.ref ka)]) hh (by lia) B hV (B.1 202 _ rfl (by kernel_rfl)) (by kernel_rfl)
  ⟨201,o201 w.params,Xn (o201 w.params),2668,by kernel_rfl,B.1 201 _ rfl (by kernel_rfl),by kernel_rfl,by kernel_rfl⟩ (by kernel_rfl) (kp_binds hK hbind) (by kernel_rfl) ?_ (by kernel_rfl) (by kernel_rfl) (by kernel_rfl) (by kernel_rfl) (by kernel_rfl) ?_ (fun x q hx=>by simp at hx) ?_ ?_ hX hXO (fun s₁ k htk st=> ?_)
 ·have hall:((["a","x","lo","hi","key"]:List Str).all fun y=>decide ((fdOf (o202 w.params)).scope.names.lookup y=some .local))=true:=by kernel_rfl
  intro y hy
  refine of_decide_eq_true (List.all_eq_true.mp hall y.1 ?_)
  rcases mem5 hy with rfl |rfl |rfl |rfl |rfl<;>simp
 ·intro y q hy
  exact XN (x:=y) (q:=q) (ns:=["a","x","lo","hi","key"]) (Xl ha (Xl hx (Xl hl (Xl JL (Xl Xy XW))))) (acc:=[]) (acc':=[]) (fun y q hq=>by simp at hq) y q hy
 ·intro y c hy
  have e:(fdOf (o202 w.params)).closure=[]:=by kernel_rfl
  rw[e]at hy;simp at hy
 ·intro y z c hy
  have e:(fdOf (o202 w.params)).closure=[]:=by kernel_rfl
  rw[e]at hy;simp at hy
 ·let c:Cx:={w:=w,g:=g,A:=A.deeper (callEnv (fdOf (o202 w.params)) s.heap.objs.size 202),env:=callEnv (fdOf (o202 w.params)) s.heap.objs.size 202,ρ:=[],lam:=l,V:=V,X:=XO objs,hX:=hX,hh:=hh,kind:=by kernel_rfl,globs:=by kernel_rfl,blts:=by kernel_rfl,ground:=Xs w g}
  have hb:XU (Cx.wr c (([("key",.val (.ref ka)),("hi",.none),("lo",.int lo),("x",.str x),("a",.lst ps)]:List (Str×PV))++[])) (fdB (stN 19)) (.ret (.int (bis (fun i=>ltS (f (ps.getD i elt0)) x) (ps.length+1) lo ps.length:Nat))):=by
   conv=>arg 2;whnf
   have E:BE c:=⟨by kernel_rfl,by kernel_rfl,by kernel_rfl,by kernel_rfl,by kernel_rfl,by kernel_rfl,by kernel_rfl⟩
   refine bis_body (Q:=fun i=>ltS (f (ps.getD i elt0)) x) E hps hlo fun lo hi hm=>⟨ltS (f (ps.getD ((lo+hi)/2) elt0)) x,?_,?_⟩
   ·have K:=fun{q1 q2 q3 q4 q5}=>bis_key (c:=c) (x:=x) (lo:=lo) (hi:=hi) (q1:=q1) (q2:=q2) (q3:=q3) (q4:=q4) (q5:=q5) E hm hps hkey hfun (fun _ h=>h) (deep hdep (Nat.le_refl _))
    exact(Xj (p:=.str (f (ps.getD ((lo+hi)/2) elt0))) (q:=.str x) K (YV E.x rfl rfl rfl) cmp_lt_str rfl)
   ·
    show XU _ (if ltS (f (ps.getD ((lo+hi)/2) elt0)) x then _ else _) (.next (if ltS (f (ps.getD ((lo+hi)/2) elt0)) x then _ else _))
    cases ltS (f (ps.getD ((lo+hi)/2) elt0)) x with
    |true=>exact bis_lo E
    |false=>exact bis_hi E
  refine wpAny_mono (hb.go s₁ st) (fun f' s' q=> ?_) fun _ _ x=>x.elim
  obtain⟨⟨v,rfl,hv⟩,k'⟩:=q
  rw[Rep]at hv
  refine⟨hv,?_⟩
  obtain⟨h1,t1,rfl,kk⟩:=k
  obtain⟨h',t',rfl,kk'⟩:=k'
  refine⟨h',t',rfl,fun b o n e=>kk' b o n (fun m=> ?_) (kk b o rfl e)⟩
  have hb:=Heap.lt_size e
  rcases List.mem_cons.mp m with q |q
  ·have:b=s.heap.objs.size:=q
   exact absurd this (Nat.ne_of_lt hb)
  ·have q':b∈(fdOf (o202 w.params)).closure.map (fun x:Str×Addr=>x.2):=q
   have e2:(fdOf (o202 w.params)).closure=[]:=by kernel_rfl
   rw[e2]at q';cases q'
theorem VB:Slot "callable_iterator" "__next__" "callable_iterator.__next__":=
 .of (owner:="callable_iterator") (n:="__next__") (by rw[typeLookup_type,builtinLookup_eq_fast];kernel_rfl) (by decide +kernel) (by decide +kernel) (by decide +kernel)
   (by first |exact .inl (by decide +kernel) |exact .inr (by decide +kernel)) (by rw[isSubtype_type];kernel_rfl)
theorem ci_slot_iter:Slot "callable_iterator" "__iter__" "callable_iterator.__iter__":=
 .of (owner:="callable_iterator") (n:="__iter__") (by rw[typeLookup_type,builtinLookup_eq_fast];kernel_rfl) (by decide +kernel) (by decide +kernel) (by decide +kernel)
   (by first |exact .inl (by decide +kernel) |exact .inr (by decide +kernel)) (by rw[isSubtype_type];kernel_rfl)
theorem ci_entry:entryFor table "callable_iterator.__next__"=some Builtin.«callable_iterator.__next__» :=entryFor_of_fast (by kernel_rfl)
theorem ci_entry_iter:entryFor table "callable_iterator.__iter__"=some Builtin.«dict_keyiterator.__iter__» :=
 entryFor_alias (id':="dict_keyiterator.__iter__") (by kernel_rfl) rfl (by decide +kernel) (by kernel_rfl)
theorem ci_args(a:Value):argsOk "callable_iterator.__next__" ⟨[a],[]⟩:=by unfold argsOk;kernel_rfl
theorem ci_args_iter(a:Value):argsOk "callable_iterator.__iter__" ⟨[a],[]⟩:=by unfold argsOk;kernel_rfl
section
variable{prog:Program}{w:World}{A:Around}{E:Value→Shared→Prop}{s:Shared}
theorem callBorrowed_of{f:Value}{pos:List Value}{Q:Value→Shared→Prop}(h:wpAny (model prog w) A (PySem.call f pos) Q E s):wpAny (model prog w) A (callBorrowed f pos) Q E s:=fun Γ p hΓ=>by
 have h':=h Γ p hΓ
 have e:PySem.call f pos= .call (.call f ⟨pos,[]⟩) none false [] (fun r=>match r with | .ok (.ret v)=>.pure v | .ok _=>.unsupported "internal:call-without-return-value" | .error e=>.raise e):=by
  first
   |rfl
   | (show Sem.call _ _ _ _ _=_;congr 1;funext r;cases r with |ok f=>cases f<;>rfl |error e=>rfl)
 have e2:callBorrowed f pos= .call (.call f ⟨pos,[]⟩) none false [borrowed] (fun r=>match r with | .ok (.ret v)=>.pure v | .ok _=>.unsupported "internal:call-without-return-value" | .error e=>.raise e):=by
  first
   |rfl
   | (show Sem.call _ _ _ _ _=_;congr 1;funext r;cases r with |ok f=>cases f<;>rfl |error e=>rfl)
 rw[e,Sem.wp_call]at h'
 rw[e2,Sem.wp_call]
 exact h'
structure Kd(h:Heap)(I b f:Addr)(x:Value)(e:Str)(te:Tok):Prop where
 it:h.get? I=some {cls:=.type "callable_iterator",data:=.fields #[.ref b,.str e te,.bool false]}
 meth:∃om vs,h.get? b=some om∧om.cls= .type "method"∧om.data= .fields vs∧vs[0]? =some (.ref f)∧vs[1]? =some x
 fn:∃of fd,h.get? f=some of∧of.data= .func fd
theorem Kd.borrows{I b f:Addr}{x:Value}{e:Str}{te:Tok}(C:Kd s.heap I b f x e te){Q:Bool→Shared→Prop}(h:Q true s):wpAny (model prog w) A (borrowsExactly (.ref b)) Q E s:=by
 obtain⟨om,vs,h1,h2,h3,h4,h5⟩:=C.meth
 obtain⟨of,fd,h6,h7⟩:=C.fn
 unfold borrowsExactly
 dsimp only
 refine wpAny_bind (wpAny_load h1 ?_)
 rw[h3,h2]
 dsimp only
 rw[if_pos (by decide)]
 have e0:vs.getD 0 .none= .ref f:=by rw[Array.getD_eq_getD_getElem?,h4];rfl
 rw[e0]
 refine wpAny_bind (wpAny_load h6 ?_)
 rw[h7]
 exact wpAny_pure h
theorem next_call{I b f:Addr}{x:Value}{e:Str}{te:Tok}{Q:Option Value→Shared→Prop}(hh:A.handled=none)(C:Kd s.heap I b f x e te)
(h:wpAny (model prog w) A.in1 (PySem.call (.ref b) []) (fun r s'=>∃y t,r= .str y t∧Kd s'.heap I b f x e te∧
   (if e=y then ∀h',Heap.ExtBut I s'.heap h'→Q none {s' with heap:=h'}else Q (some r) s')) (fun _ _=>False) s):wpAny (model prog w) A (pyNext (.ref I)) Q E s:=by
 have hT:s.TypeIs (.ref I) "callable_iterator":=⟨_,C.it,rfl⟩
 unfold pyNext
 refine wpAny_bind (wpAny_attempt (wpAny_callSpecial?_slot (name:=Str.ofString "__next__") hT VB
  (wpAny_call_entry VB hT ci_entry ?_ (ci_args _))))
 show wpAny _ _ (field (.ref I) 2 >>= _) _ _ s
 refine wpAny_bind (wpAny_field C.it rfl (x:=.bool false) rfl ?_)
 show wpAny _ _ (if(Value.bool false==Value.bool true)=true then _ else _) _ _ s
 rw[if_neg (show ¬((Value.bool false==Value.bool true)=true)from Bool.false_ne_true)]
 refine wpAny_bind (wpAny_field C.it rfl (x:=.ref b) rfl ?_)
 refine wpAny_bind (wpAny_attempt ?_)
 unfold callOutOfASlot
 refine wpAny_bind (C.borrows ?_)
 rw[if_pos rfl]
 refine callBorrowed_of (wpAny_mono h (fun r s' q=> ?_) fun _ _ x=>x.elim)
 obtain⟨y,t,rfl,C',hq⟩:=q
 dsimp only
 refine wpAny_bind (wpAny_field C'.it rfl (x:=.bool false) rfl ?_)
 rw[if_neg (show ¬((Value.bool false==Value.bool true)=true)from Bool.false_ne_true)]
 refine wpAny_bind (wpAny_field C'.it rfl (x:=.str e te) rfl ?_)
 refine wpAny_bind (wpAny_holding (wpAny_eqBool_str ?_))
 by_cases hey:e=y
 ·rw[if_pos hey]at hq
  rw[decide_eq_true hey]
  simp only[Bool.not_true,Bool.false_eq_true,if_false]
  refine wpAny_bind (wpAny_rule (wpAny_bind ?_))
  show wpAny _ _ (field (.ref I) 0 >>= _) _ _ _
  refine wpAny_bind (wpAny_field C'.it rfl (x:=.ref b) rfl ?_)
  refine wpAny_bind ?_
  unfold slotLetsGo
  dsimp only
  refine wpAny_bind (C'.borrows ?_)
  rw[if_pos rfl]
  refine wpAny_pure ?_
  refine wpAny_bind (wpAny_setField_rec C'.it (by repeat constructor) fun h1 g1 b1=> ?_)
  refine wpAny_bind (wpAny_setField_rec g1 (by repeat constructor) fun h2 g2 b2=> ?_)
  refine wpAny_setField_rec g2 (by repeat constructor) fun h3 g3 b3=> ?_
  have hext:Heap.ExtBut I s'.heap h3:=fun c o hc ho=>b3.extBut c o hc (b2.extBut c o hc (b1.extBut c o hc ho))
  show wpAny _ _ (newExc (.type "StopIteration") [] >>= _) _ _ _
  refine wpAny_bind ?_
  simp only[newExc,newTuple]
  refine wpAny_bind (wpAny_newObj_type ?_ (by size_fits))
  refine wpAny_bind (m:=firstArgMember _ _) (wpAny_of_eq (a:=Value.none) (by first |rfl | (simp only[firstArgMember];rfl)) ?_)
  refine wpAny_newObj_type ?_ (by size_fits)
  simp only[raiseNew]
  refine wpAny_bind (wpAny_handled ?_)
  rw[show A.in1.handled=none from hh]
  refine wpAny_bind (wpAny_pure (wpAny_throw ?_))
  refine wpAny_bind (wpAny_isInstance (T:="StopIteration") (b:=true) ⟨_,Heap.get?_push_size _ rfl,rfl⟩ isSubtype_stop ?_)
  exact wpAny_pure (hq _ ((hext.push _).push _))
 ·rw[if_neg hey]at hq
  rw[decide_eq_false hey]
  simp only[Bool.not_false,if_true]
  exact wpAny_pure ⟨_,rfl,wpAny_pure hq⟩
end
theorem call_body{l:Bool}{w:World}{g:Nat→Obj}{n:Nat}{fd:FuncData}{body:List Stmt}{a c':Addr}{o oc:Obj}{cvs:Array Value}{ct:Tok}{ns:List Str}{ps:List PV}{vs:List Value}{r:PV}{K:Frag}{args:List Value}{kw:List (Str×Value)}{objs:List (Addr×Obj)}
(ho:(S35 w g).heap.get? a=some o)(ha:Xp a=false)(hd:o.data= .func fd)(hcode:fd.code= .ref c')
(hoc:(S35 w g).heap.get? c'=some oc)(hc':Xp c'=false)(hdc:oc.data= .fields cvs)(hcn:cvs[1]? =some (.str fd.qualname ct))(hbody:fd.body= .stmts body)
(hK:∀p∈K,Xp p.1=false∧(S35 w g).heap.get? p.1=some p.2)(hbind:∀S,peek K S (bindArgs fd ⟨args,kw⟩)=some (ns.zip vs))(hclo:fd.closure=[])
(hloc:(ns.all fun x=>decide (fd.scope.names.lookup x=some .local))=true)(hcell:(fd.scope.names.all fun x=>x.2 != .cell)=true)
(hgl:fd.globals=mainGlobals)(hbl:fd.builtins=builtinsNs)(hco:fd.scope.isCoroutine=false)(hgen:fd.scope.isGenerator=false)(hk:fd.scope.kind= .function)
(h9:∀p∈objs,439≤p.1){A:Around}(hh:A.handled=none)(hdep:A.depth+(n+1)<recursionLimit){V:List Addr}{s:Shared}(B:Base w g s)(hV:Yd V s.heap)(hXO:XO objs s)(hr:Xb V s.heap ps vs)
(h:∀(L:Addr) (hX:∀s₁ s',XO objs s₁→KpF l (L::fd.closure.map (fun x:Str×Addr=>x.2)) s₁ s'→XO objs s'),439≤L→
   XU (Cx.wr {w:=w,g:=g,A:=A.deeper (callEnv fd L a),env:=callEnv fd L a,ρ:=[],lam:=l,V:=V,X:=XO objs,hX:=hX,hh:=hh,kind:=hk,globs:=hgl,blts:=hbl,ground:=Xs w g} ((ns.zip ps).reverse++[])) body (.ret r)):
 wpAny (model pw w) A (PySem.call (.ref a) args kw) (fun v s'=>Rep V s'.heap r v∧Kp l s s') (fun _ _=>False) s:=by
 have live:∀p∈objs,p.1≠s.heap.objs.size:=fun p hp=>Nat.ne_of_lt (Heap.lt_size (hXO p hp))
 have hX:∀s₁ s',XO objs s₁→KpF l (s.heap.objs.size::fd.closure.map (fun x:Str×Addr=>x.2)) s₁ s'→XO objs s':=fun s₁ s' x k=>XO.kpf h9 (fun p hp hm=>by
  rcases List.mem_cons.mp hm with q |q
  ·exact live p hp q
  ·rw[hclo]at q;cases q) x k
 refine Zh (l:=l) (ρb:=(ns.zip ps).reverse) (ρf:=[]) (X:=XO objs) (fd:=fd) (binds:=ns.zip vs) hh (by lia) B hV (B.1 _ _ ha ho) hd ⟨c',oc,cvs,ct,hcode,B.1 _ _ hc' hoc,hdc,hcn⟩ hbody (kp_binds (XD B hK) hbind) hcell (fun x hx=> ?_) hgl hbl hco hgen hk (fun x q hx=> ?_) (fun x q hx=>by simp at hx) (fun x c hx=>by rw[hclo]at hx;simp at hx) (fun x y c hx=>by rw[hclo]at hx;simp at hx) hX hXO (fun s₁ k htk st=> ?_)
 ·have h1:x.1∈ns:=(List.of_mem_zip (a:=x.1) (b:=x.2) hx).1
  exact of_decide_eq_true (List.all_eq_true.mp hloc _ h1)
 ·exact XN (x:=x) (q:=q) hr (acc:=[]) (acc':=[]) (fun y q hq=>by simp at hq) x q hx
 ·refine wpAny_mono ((h s.heap.objs.size hX B.size).go s₁ st) (fun f s' q=> ?_) fun _ _ x=>x.elim
  obtain⟨⟨v,rfl,hv⟩,k'⟩:=q
  refine⟨hv,?_⟩
  obtain⟨h1,t1,rfl,kk⟩:=k
  obtain⟨h',t',rfl,kk'⟩:=k'
  refine⟨h',t',rfl,fun b o n e=>kk' b o n (fun m=> ?_) (kk b o rfl e)⟩
  have hb:=Heap.lt_size e
  rcases List.mem_cons.mp m with q |q
  ·have:b=s.heap.objs.size:=q
   exact absurd this (Nat.ne_of_lt hb)
  ·have q':b∈fd.closure.map (fun x:Str×Addr=>x.2):=q
   rw[hclo]at q';cases q'
theorem KY{s:Shared}:XO [] s:=fun p hp=>by cases hp
section
variable{c:Cx}
theorem call_type_str{x:Str}:ZZ c (.type "type") [.str x] (.val (.type "str")):=fun s vs hs h=>by
 rw[Xb]at h
 obtain⟨v,r,rfl,h1,h2⟩:=h
 rw[Xb]at h2;subst h2
 rw[Rep]at h1
 obtain⟨t,rfl⟩:=h1
 exact call_type_of (typeIs_str _ _ _) (by decide) ⟨by rw[Rep],.refl s⟩
theorem cmp_is_type{T U:String}:Zi c .Is (.val (.type T)) (.val (.type U)) (Value.type T==Value.type U):=fun s v u hs h1 h2=>by
 rw[Rep]at h1
 rw[Rep]at h2
 subst h1 h2
 exact wpAny_is_plain rfl ⟨rfl,.refl s⟩
end
theorem conv_ok{l:Bool}{w:World}{g:Nat→Obj}{x:Str}{b:Bool}(hx:x.length≤1000)(hP:x.cps.toList.any (if b then nmP else vlP)=false){A:Around}(hh:A.handled=none)(hdep:A.depth+1<recursionLimit){V:List Addr}{s:Shared}{sv xv:Value}(B:Base w g s)(hV:Yd V s.heap)(hxv:Rep V s.heap (.str x) xv):
 wpAny (model pw w) A (PySem.call (.ref 289) [sv,xv] [("name",.bool b)]) (fun v s'=>Rep V s'.heap (.str x) v∧Kp l s s') (fun _ _=>False) s:=by
 refine call_body (n:=0) (fd:=fdOf (o289 w.params)) (body:=fdB (stM 27 1)) (a:=289) (c':=288) (ns:=["self","value","name"]) (ps:=[.val sv,.str x,.bool b]) (vs:=[sv,xv,.bool b]) (o:=o289 w.params) (oc:=o288 w.params) (cvs:=Xn (o288 w.params)) (ct:=2868) (K:=[]) (objs:=[]) (by kernel_rfl) rfl (by kernel_rfl) (by kernel_rfl) (by kernel_rfl) rfl (by kernel_rfl) (by kernel_rfl) (by kernel_rfl) (fun p hp=>by cases hp) ?_ (by kernel_rfl) (by kernel_rfl) (by kernel_rfl) (by kernel_rfl) (by kernel_rfl) (by kernel_rfl) (by kernel_rfl) (by kernel_rfl) (fun p hp=>by cases hp) hh (by lia) B hV KY ?_ ?_
 ·intro S
  kernel_rfl
 ·rw[Xb]
  refine⟨sv,_,rfl,by rw[Rep],?_⟩
  rw[Xb]
  refine⟨xv,_,rfl,hxv,?_⟩
  rw[Xb]
  exact⟨_,_,rfl,by rw[Rep],by rw[Xb]⟩
 ·intro L hX hL
  conv=>arg 2;whnf
  refine Yg (Zb (b:=true) (Xk (Xj (p:=.val (.type "str")) (q:=.val (.type "str")) ?_ (Xm (v:=.type "str") rfl (by kernel_rfl) (by kernel_rfl) rfl) cmp_is_type rfl) (by repeat constructor)) ?_)
  ·exact XQ (fv:=.type "type") (ps:=[.str x]) (Xm (v:=.type "type") rfl (by kernel_rfl) (by kernel_rfl) rfl) (Xc (Xa rfl rfl rfl rfl) Xd rfl) rfl (.inr (.inl ⟨_,rfl⟩)) call_type_str
  conv=>arg 2;whnf
  have hs:x.length≤sizeLine:=Nat.le_trans hx (by decide +kernel)
  cases b with
  |true=>
   refine Xo (.val (.ref 254)) (Jp (x:=true) (Yr (p:=.bool true) (Xa rfl rfl rfl rfl) YL rfl) (XA rfl (by kernel_rfl) rfl)) (.inl rfl) rfl ?_
   refine Yj (Zb (b:=false) (Xk (ZC (pat_nm w g) (Xa rfl rfl rfl rfl) (Xa rfl rfl rfl rfl) hs rfl rfl rfl) hP) YT) ?_
   exact Yg (Xh (Xa rfl rfl rfl rfl))
  |false=>
   refine Xo (.val (.ref 259)) (Jp (x:=false) (Yr (p:=.bool false) (Xa rfl rfl rfl rfl) YL rfl) (XA rfl (by kernel_rfl) rfl)) (.inl rfl) rfl ?_
   refine Yj (Zb (b:=false) (Xk (ZC (pat_vl w g) (Xa rfl rfl rfl rfl) (Xa rfl rfl rfl rfl) hs rfl rfl rfl) hP) YT) ?_
   exact Yg (Xh (Xa rfl rfl rfl rfl))
noncomputable def KHd(P:Params):Frag:=[(388,o388 P),(387,o387 P),(282,o282 P),(289,o289 P),(327,o327 P),(352,o352 P),(385,o385 P)]
theorem YU{w:World}{g:Nat→Obj}{s:Shared}(B:Base w g s):(KHd w.params).In s.heap:=XD (w:=w) (g:=g) B fun p hp=>by
 rcases mem7 hp with rfl |rfl |rfl |rfl |rfl |rfl |rfl<;>exact⟨rfl,by kernel_rfl⟩
section
variable{M:Model}{A:Around}{E:Value→Shared→Prop}{s:Shared}{env:Env}
theorem YN{o:PySem.Expr}{name:Str}{apos pos:Pos}{args:List PySem.Expr}{kws:List Keyword}{Q:Value→Shared→Prop}(hbase:attributeBase o name env (eval o env)=eval o env)
(hform:methodCallForm (args.length+kws.length) (backTo pos (starEach args env)) (backToKw pos (keywordEach kws env))=true)(hline:(apos.endLine==pos.line)=true)
(h:wpAny M A (eval o env) (fun ov s₁=>∀pl,wpAny M A (getMethod ov name pl) (fun fx s₂=>wpAny M A (callWith pos fx.1 fx.2 (backTo pos (starEach args env)) (backToKw pos (keywordEach kws env))) Q E s₂) E s₁) E s):
 wpAny M A (eval (.Call (.Attribute o name apos) args kws pos) env) Q E s:=by
 rw[arm_eval_Call,hbase]
 refine wpAny_bind (wpAny_mono h (fun ov s₁ h₁=> ?_) fun _ _ e=>e)
 refine wpAny_bind (wpAny_standAt ?_)
 have hpos:methodCallPos true o env apos pos=pure pos:=by unfold methodCallPos;simp[hline]
 unfold methodCall
 rw[hform]
 refine wpAny_bind (wpAny_holding (wpAny_mono (h₁ _) (fun fx s₂ h₂=> ?_) fun _ _ e=>e))
 exact wpAny_bind (wpAny_of_eq hpos h₂)
end
section
variable{c:Cx}
theorem VA{sp ap kp kwp pos:Pos}{k:Nat}{e:PySem.Expr}{sx:Addr}{x:Str}{b:Bool}(hself:EvOk c (.Name "self" sp) (.val (.ref sx)))(he:EvOk c e (.str x))(hst:XV e=false)
(hinst:∀s,c.St s→∃ox od,InstAt s.heap sx ox 388 od∧shadowIn od "_convert_string_type"=some false)(hx:x.length≤1000)(hP:x.cps.toList.any (if b then nmP else vlP)=false)(hd:c.A.depth+1<recursionLimit)(hl:(ap.endLine==pos.line)=true):
 EvOk c (.Call (.Attribute (.Name "self" sp) "_convert_string_type" ap) [e] [{arg:=some "name",value:=.Constant (.bool b) k kp,pos:=kwp}] pos) (.str x):=.mk fun s hs=>by
 refine YN (by rfl) (by rw[Xt hst];rfl) hl ?_
 ·refine Xi hself hs fun v s₁ r₁ k₁ st₁ pl=> ?_
  rw[Rep]at r₁
  subst r₁
  obtain⟨ox,od,I,hsh⟩:=hinst s₁ st₁
  refine method_fn (f:=289) (YU st₁.1) I (by kernel_rfl) (by kernel_rfl) (by kernel_rfl) (by kernel_rfl) hsh ?_
  refine callWith_KW (h₀:=s₁.heap) (YU st₁.1) (by kernel_rfl) rfl ?_ (by rw[Xt hst];rfl) (Xt hst)
  have hall:YK c pos [e] [.str x]:=Xc he Xd hst
  refine wpAny_mono (hall.go s₁ st₁) (fun vs s₂ q=> ?_) fun _ _ x=>x.elim
  obtain⟨q,k₂⟩:=q
  have st₂:=st₁.kp k₂
  rw[Xb]at q
  obtain⟨xv,vs,rfl,hxv,q⟩:=q
  rw[Xb]at q;subst q
  show wpAny _ _ (evalAll [_]) _ _ s₂
  refine wpAny_evalAll_cons ?_
  show wpAny _ _ (do let v ←eval (.Constant (.bool b) k kp) c.env;standAt pos;pure v) _ _ _
  refine wpAny_bind (wpAny_pure (wpAny_bind (wpAny_standAt (wpAny_pure ?_))))
  refine wpAny_evalAll_nil ⟨YU st₂.1,?_⟩
  exact wpAny_mono (conv_ok (l:=c.lam) hx hP c.hh hd st₂.1 st₂.2.1.vol hxv) (fun v s' q=>⟨q.1,(k₁.trans k₂).trans q.2⟩) fun _ _ x=>x
end
section
variable{c:Cx}
theorem KT{n:PySem.Str}{np pos:Pos}{attr:PySem.Str}{sx C:Addr}{K:Frag}{p:PV}(hself:EvOk c (.Name n np) (.val (.ref sx)))(hK:∀s,c.St s→K.In s.heap)
(hinst:∀s,c.St s→∃ox od v,InstAt s.heap sx ox C (some od)∧lookIn attr od=some (some v)∧handedIn v=true∧Rep c.V s.heap p v)
(hga:findIn K (.ref C) "__getattribute__"=some (some (.builtin "object.__getattribute__")))(hh:hasDictIn K C=true)(ha:findIn K (.ref C) attr=some none):EvOk c (.Attribute (.Name n np) attr pos) p:=.mk fun s hs=>by
 refine Attribute_name (Xi hself hs fun v s₁ r₁ k₁ st₁=> ?_)
 rw[Rep]at r₁
 subst r₁
 obtain⟨ox,od,v,I,hl,hv,hr⟩:=hinst s₁ st₁
 exact get_value (hK s₁ st₁) I hga (findObj_own hh ha rfl hl) hv ⟨hr.kp (l:=c.lam) (.tok _),k₁.trans (.tok _)⟩
end
theorem Vq{n:Nat}(h:n≤1000):Builtin.Str.tooLong n=false:=by
 have:n≤sizeLine:=Nat.le_trans h (by decide +kernel)
 unfold Builtin.Str.tooLong
 exact decide_eq_false (by lia)
structure YJ(h:Heap)(sx dx hl:Addr):Prop where
 big:439≤sx∧439≤dx
 obj:∃sl,h.get? sx=some ⟨.ref 388,some dx,.plain,sl⟩
 dict:∃hash t n,h.get? dx=some (dictOf [⟨hash,.str "_headers" t,.ref hl⟩] n)
theorem YJ.inst{h:Heap}{sx dx hl:Addr}(x:YJ h sx dx hl):∃ox od,InstAt h sx ox 388 (some od)∧lookIn "_headers" od=some (some (.ref hl))∧shadowIn (some od) "_convert_string_type"=some false:=by
 obtain⟨sl,h1⟩:=x.obj
 obtain⟨hash,t,n,h2⟩:=x.dict
 exact⟨_,_,⟨h1,rfl,rfl,h2⟩,by kernel_rfl,by kernel_rfl⟩
theorem YJ.at{h h':Heap}{sx dx hl:Addr}(x:YJ h sx dx hl)(k:∀b o,439≤b→b=sx∨b=dx→h.get? b=some o→h'.get? b=some o):YJ h' sx dx hl:=
 ⟨x.big,let⟨sl,e⟩:=x.obj;⟨sl,k _ _ x.big.1 (.inl rfl) e⟩,let⟨a,t,n,e⟩:=x.dict;⟨a,t,n,k _ _ x.big.2 (.inr rfl) e⟩⟩
theorem getall_ok{l:Bool}{w:World}{g:Nat→Obj}{nm:Str}{H:List (Str×Str)}(hH:H.length≤100)(hL:(Txt.lower nm).length≤1000)(hHs:∀p∈H,(Txt.lower p.1).length≤1000)(hP:(Txt.lower nm).cps.toList.any nmP=false){A:Around}(hh:A.handled=none)(hdep:A.depth+2<recursionLimit){V:List Addr}{s:Shared}{sx dx hl:Addr}{nv:Value}
(B:Base w g s)(hV:Yd V s.heap)(hx:YJ s.heap sx dx hl)(hr:Rep V s.heap (kvPV H) (.ref hl))(hn:Rep V s.heap (.str nm) nv):
 wpAny (model pw w) A (PySem.call (.ref 327) [.ref sx,nv]) (fun v s'=>Rep V s'.heap (.lst ((H.filter fun p=>Txt.lower p.1==Txt.lower nm).map fun p=>.str p.2)) v∧Kp l s s') (fun _ _=>False) s:=by
 let fd:=fdOf (o327 w.params)
 let F:List Addr:=s.heap.objs.size::(cellsFrom (s.heap.objs.size+1) (fdOf (o327 w.params)).scope.names []).map (fun x:Str×Addr=>x.2)
 have hab:∀b∈F,s.heap.objs.size≤b:=fun b hb=>by
  rcases List.mem_cons.mp hb with q |q
  ·exact Nat.le_of_eq q.symm
  ·have e:(cellsFrom (s.heap.objs.size+1) (fdOf (o327 w.params)).scope.names []).map (fun x:Str×Addr=>x.2)=[s.heap.objs.size+1]:=by kernel_rfl
   rw[e,List.mem_singleton]at q
   rw[q];exact Nat.le_succ _
 have notF:∀b o,s.heap.get? b=some o→b∉F:=fun b o e m=>absurd (Heap.lt_size e) (Nat.not_lt.mpr (hab b m))
 let X:Shared→Prop:=fun s'=>YJ s'.heap sx dx hl∧Rep (F++V) s'.heap (kvPV H) (.ref hl)
 have hsx:sx∉F:=by obtain⟨sl,e⟩:=hx.obj;exact notF _ _ e
 have hdx:dx∉F:=by obtain⟨a,t,n,e⟩:=hx.dict;exact notF _ _ e
 have hX:∀s₁ s',X s₁→KpF l F s₁ s'→X s':=fun s₁ s' x k=>⟨x.1.at fun b o h9 hb e=>k.get (Xv h9) (by rcases hb with rfl |rfl;exact hsx;exact hdx) e,
  x.2.mono fun b d x n hb e=>k.get (Xu hb) (fun m=>XM hb (List.mem_append_left _ m)) e⟩
 have hXs:X s:=⟨hx,hr.sub fun b d x n hb e=>Yx (Xu hb) fun m=>by
  rcases List.mem_append.mp m with q |q
  ·exact notF _ _ e q
  ·exact XM hb q⟩
 refine ZF (l:=l) (ρb:=[("self",.val (.ref sx)),("name",.str nm)]) (X:=X) (fd:=fdOf (o327 w.params)) (body:=fdB (stM 27 7)) (o:=o327 w.params) (binds:=[("self",.ref sx),("name",nv)]) hh (by lia) B hV (B.1 327 _ rfl (by kernel_rfl)) (by kernel_rfl)
  ⟨326,o326 w.params,Xn (o326 w.params),2916,by kernel_rfl,B.1 326 _ rfl (by kernel_rfl),by kernel_rfl,by kernel_rfl⟩ (by kernel_rfl) (by kernel_rfl) (by kernel_rfl) ?_ (by kernel_rfl) (by kernel_rfl) (by kernel_rfl) (by kernel_rfl) (by kernel_rfl) ?_ hX hXs (fun s₁ k hcab st=> ?_)
 ·intro y hy
  rcases mem2 hy with rfl |rfl
  ·exact .inl (by kernel_rfl)
  ·exact .inr ⟨by kernel_rfl,by kernel_rfl⟩
 ·intro y q hy
  rcases lk2 hy with⟨rfl,rfl⟩ | ⟨rfl,rfl⟩
  ·exact⟨.ref sx,by kernel_rfl,by rw[Rep]⟩
  ·exact⟨nv,by kernel_rfl,hn⟩
 ·have hinst:∀(ρ:List (Str×PV)) (s₂:Shared),YJ s₂.heap sx dx hl→∃ox od,InstAt s₂.heap sx ox 388 (some od)∧lookIn "_headers" od=some (some (.ref hl))∧shadowIn (some od) "_convert_string_type"=some false:=fun _ s₂ x=>x.inst
  refine wpAny_mono (XU.go (o:=.ret (.lst ((H.filter fun p=>Txt.lower p.1==Txt.lower nm).map fun p=>.str p.2))) ?_ s₁ st) (fun f s' q=> ?_) fun _ _ x=>x.elim
  ·conv=>arg 2;whnf
   refine Xo (.str (Txt.lower nm)) ?_ (.inr ⟨rfl,rfl⟩) rfl ?_
   ·refine VA (sx:=sx) (b:=true) (Xa rfl rfl rfl rfl) (KQ (x:=nm) (Xa rfl rfl rfl rfl) rfl rfl (Vq hL)) rfl (fun s₂ st₂=> ?_) hL hP (show A.depth+1+1<recursionLimit from dep2 hdep (by decide)) rfl
    obtain⟨ox,od,I,_,h⟩:=hinst [] s₂ st₂.2.2.1
    exact⟨ox,some od,I,h⟩
   refine Ym (Xh ?_)
   rw[←Uk H fun m=>Txt.lower m==Txt.lower nm]
   refine Jf (by kernel_rfl) [("name",s.heap.objs.size+1)] [("name",.str (Txt.lower nm))] (fun v=>Txt.lower (fstS v)==Txt.lower nm) sndS (YF (KT (sx:=sx) (C:=388) (K:=KHd w.params) (p:=kvPV H) (Xa rfl rfl rfl rfl) (fun s₂ st₂=>YU st₂.1) (fun s₂ st₂=> ?_) (by kernel_rfl) (by kernel_rfl) (by kernel_rfl)) YX) (by rw[List.length_map];exact Nat.le_trans hH (by decide +kernel)) rfl (by kernel_rfl) (by kernel_rfl) rfl (fun _=>rfl) (UR rfl) (KN rfl rfl fun _=>rfl) ?_
   ·obtain⟨ox,od,I,h,_⟩:=hinst [] s₂ st₂.2.2.1
    exact⟨ox,od,_,I,h,rfl,st₂.2.2.2.sub fun b d x n hb e=>Yx (Xu hb) fun m=>XM hb (List.mem_append_right _ m)⟩
   intro C V' hC i p hp
   rw[List.getElem?_map]at hp
   obtain⟨k,hk,rfl⟩:=Option.map_eq_some_iff.mp hp
   have hk':=hHs k (List.mem_of_getElem? hk)
   refine⟨[("kv",.tup [.str k.1,.str k.2])],YW rfl,Ke ?_,fun _=> ?_⟩
   ·refine Xj (p:=.str (Txt.lower k.1)) (q:=.str (Txt.lower nm)) (KQ (x:=k.1) (XY (p:=.tup [.str k.1,.str k.2]) (q:=.int 0) (Xa rfl rfl rfl rfl) Xe (XX (by decide) (by decide) rfl) rfl) rfl rfl (Vq hk')) (Xa rfl rfl rfl rfl) ZX rfl
   ·exact XY (p:=.tup [.str k.1,.str k.2]) (q:=.int 1) (Xa rfl rfl rfl rfl) Xe (XX (by decide) (by decide) rfl) rfl
  ·obtain⟨⟨v,rfl,hv⟩,k'⟩:=q
   refine⟨hv,?_⟩
   obtain⟨h1,t1,rfl,kk⟩:=k
   obtain⟨h',t',rfl,kk'⟩:=k'
   exact⟨h',t',rfl,fun b o n e=>kk' b o n (notF b o e) (kk b o rfl e)⟩
theorem codeAmong_of_snoc{pos pos':Pos}{c cv:Value}(l:List Value)(h:TriplesOk l)(e:codeAmong pos' (l++[rawInt pos.line,rawInt pos.col,c])=some cv):codeAmong pos' l=some cv∨cv=c:=by
 fun_induction TriplesOk l with
 |case1=>
  simp only[List.nil_append,codeAmong,rawInt]at e
  split at e
  ·exact .inr (Option.some.inj e).symm
  ·cases e
 |case2 a t b u x rest ih=>
  simp only[List.cons_append,codeAmong]at e ⊢
  split at e
  ·rename_i hc;rw[if_pos hc];exact .inl e
  ·rename_i hc;rw[if_neg hc];exact ih h e
 |case3 l h1 h2=>exact h.elim
noncomputable abbrev Uj(qual:Str)(params:Arguments)(body:PySem.Expr)(scope:Scope)(clos:List (Str×Addr))(pm cv ctv:Value):Obj:=
 {cls:=.type "function",data:=.func (kla_fn "<lambda>" qual params body scope clos pm cv ctv)}
theorem blt_at(w:World)(g:Nat→Obj){P:Addr}(hP:Xp P=true):(S35 w g).heap.BuiltinsAt ((S35 w g).heap.nsMap mainGlobals) P:=by
 have h:(S35 w g).heap.get? 4=some ⟨.type "module",some 0,.plain,(((L_0 w.params)[4]?).getD default).slots⟩:=by kernel_rfl
 have h1:(S35 w g).heap.nsMap mainGlobals "__builtins__"=some (.ref 4):=by kernel_rfl
 refine⟨4,?_⟩
 exact⟨_,h1,by decide +kernel,by decide +kernel,fun e=>(by subst e;cases hP),h,rfl,rfl,rfl⟩
section
variable{c:Cx}
end
theorem key_lam{w:World}{g:Nat→Obj}{l:Bool}{n:Nat}{objs:List (Addr×Obj)}{a:Addr}{qual:Str}{params:Arguments}{body:PySem.Expr}{scope:Scope}{clos:List (Str×Addr)}{pm cv ctv:Value}{c':Addr}{oc:Obj}{cvs:Array Value}{ct:Tok}{ns:List Str}{ps:List PV}{r:PV}{ρf:List (Str×PV)}
(ha:(a,Uj qual params body scope clos pm cv ctv)∈objs)(hcv:cv= .ref c')(hoc:(c',oc)∈objs)(hdc:oc.data= .fields cvs)(hcn:cvs[1]? =some (.str qual ct))(h9:∀p∈objs,439≤p.1)
(hbind:∀vs:List Value,vs.length=ps.length→bindArgs (kla_fn "<lambda>" qual params body scope clos pm cv ctv) ⟨vs,[]⟩=pure (ns.zip vs))
(hloc:(ns.all fun x=>decide (scope.names.lookup x=some .local))=true)(hcell:(scope.names.all fun x=>x.2 != .cell)=true)
(hco:scope.isCoroutine=false)(hgen:scope.isGenerator=false)(hk:scope.kind= .function)
(hf:∀x q,ρf.lookup x=some q→scope.names.lookup x=some .free∧∃b o v,clos.lookup x=some b∧(b,o)∈objs∧o.data= .cell (some v)∧∀V h,Rep V h q v)
(hcl:∀x b,clos.lookup x=some b→∃o v,(b,o)∈objs∧o.data= .cell v)(hap:∀x y b,clos.lookup x=some b→clos.lookup y=some b→x=y)
(h:∀(V:List Addr) (A:Around) (L:Addr) (hh:(A.deeper (callEnv (kla_fn "<lambda>" qual params body scope clos pm cv ctv) L a)).handled=none),439≤L→A.depth+(n+1)<recursionLimit→
   EvOk (Cx.wr {w:=w,g:=g,A:=A.deeper (callEnv (kla_fn "<lambda>" qual params body scope clos pm cv ctv) L a),env:=callEnv (kla_fn "<lambda>" qual params body scope clos pm cv ctv) L a,ρ:=[],lam:=l,V:=V,X:=fun _=>True,hX:=fun _ _ _ _=>trivial,hh:=hh,kind:=hk,globs:=rfl,blts:=rfl,ground:=Xs w g} ((ns.zip ps).reverse++ρf)) body r):
 Kc w g l (n+1) objs (.ref a) ps r:=fun A hh hdep V s vs B hV hXO hr=>by
 have hcd:s.heap.CodeRec cv qual:=⟨c',oc,cvs,ct,hcv,hXO _ hoc,hdc,hcn⟩
 refine wpAny_call (kla_callFunE (by lia) (hXO _ ha) rfl hco hgen rfl hcd ?_)
 rw[hbind vs hr.length]
 refine wpAny_pure (wpAny_newFunctionEnv (fun x hx=>by have:=List.all_eq_true.mp hcell x hx;simpa using this) (fun x hx=> ?_) (fun h₁ hns hsb=>⟨B.nolimit.fresh _ hsb,?_⟩) hk)
 ·exact of_decide_eq_true (List.all_eq_true.mp hloc _ (List.of_mem_zip (a:=x.1) (b:=x.2) hx).1)
 have hk₁:∀b o,s.heap.get? b=some o→h₁.get? b=some o:=fun b o e=>hsb.extBut b o (Nat.ne_of_lt (Heap.lt_size e)) (Heap.get?_push_of_some _ e)
 have k:Kp false s {s with heap:=h₁,toks:=s.toks+(ns.zip vs).length}:=⟨h₁,_,rfl,fun b o _ e=>hk₁ b o e⟩
 have B':=B.kp k
 have hL:=B.size
 refine kla_codeExpr (wpAny_mono ((h V A s.heap.objs.size hh hL hdep).go {s with heap:=h₁,toks:=s.toks+(ns.zip vs).length} ⟨B',⟨⟨_,hns,fun x pv hx hkx=> ?_⟩,fun x pv hx hkx=> ?_,hL,fun x b hx=> ?_,hV.kp k,hap⟩,trivial⟩) (fun v s' q=>⟨q.1,k.weak.trans q.2⟩) fun _ _ x=>x.elim)
 ·have hx:((ns.zip ps).reverse++ρf).lookup x=some pv:=hx
  have hkx:scope.names.lookup x=some .local:=hkx
  rw[List.lookup_append]at hx
  cases hq:(ns.zip ps).reverse.lookup x with
  |some p=>
   rw[hq]at hx
   obtain rfl:p=pv:=by simpa using hx
   exact XN (x:=x) (q:=p) (hr.kp k) (acc:=[]) (acc':=[]) (fun y q hq=>by simp at hq) x p hq
  |none=>
   rw[hq]at hx
   have hx':ρf.lookup x=some pv:=by simpa using hx
   have h1:=(hf x pv hx').1
   rw[h1]at hkx;cases hkx
 ·have hx:((ns.zip ps).reverse++ρf).lookup x=some pv:=hx
  rw[List.lookup_append]at hx
  cases hq:(ns.zip ps).reverse.lookup x with
  |some p=>
   have h1:x∈ns:=by
    have:=mem_of_lookup hq
    rw[List.mem_reverse]at this
    exact(List.of_mem_zip this).1
   have h2:scope.names.lookup x=some .local:=of_decide_eq_true (List.all_eq_true.mp hloc _ h1)
   rcases hkx with e |e<;>(have e':scope.names.lookup x=_:=e;rw[h2]at e';cases e')
  |none=>
   rw[hq]at hx
   have hx':ρf.lookup x=some pv:=by simpa using hx
   obtain⟨_,b,o,v,hb,ho,hd,hr⟩:=hf x pv hx'
   exact⟨b,v,hb,Xv (h9 _ ho),⟨o,hk₁ _ _ (hXO _ ho),hd⟩,hr _ _⟩
 ·obtain⟨o,v,ho,hd⟩:=hcl x b hx
  exact⟨h9 _ ho,v,o,hk₁ _ _ (hXO _ ho),hd⟩
section
variable{c:Cx}
theorem KI{f:PySem.Str}{np pos kp:Pos}{e:PySem.Expr}{rest:List PySem.Expr}{ek:PySem.Expr}{kn:Str}{ps:List PV}{fv:Value}{K:Frag}{s:Shared}{Q E:Value→Shared→Prop}(hs:c.St s)(hf:EvOk c (.Name f np) (.val fv))(hK:∀s,c.St s→K.In s.heap)(hk:keepIn K fv=true)
(ha:YK c pos (e::rest) ps)(hn:(e::rest).all (fun e=> !XV e)=true)
(h:∀vs s₁,Xb c.V s₁.heap ps vs→Kp c.lam s s₁→c.St s₁→wpAny (model pw c.w) c.A (eval ek c.env) (fun kv s₂=>K.In s₂.heap∧wpAny (model pw c.w) c.A (PySem.call fv vs [(kn,kv)]) Q E s₂) E s₁):
 wpAny (model pw c.w) c.A (eval (.Call (.Name f np) (e::rest) [{arg:=some kn,value:=ek,pos:=kp}] pos) c.env) Q E s:=by
 have hst:XV e=false:=by
  have:=List.all_eq_true.mp hn e (List.mem_cons_self ..)
  simpa using this
 have hpl:(backTo pos (starEach (e::rest) c.env)).any (·.1)=false:=by
  exact ZM hn
 show wpAny _ _ (eval (.Name f np) c.env >>= fun f=>callWith pos f [] (backTo pos (starEach (e::rest) c.env)) (backToKw pos (keywordEach [{arg:=some kn,value:=ek,pos:=kp}] c.env))) _ _ s
 refine wpAny_bind (Xi hf hs fun v s₁ r₁ k₁ st₁=> ?_)
 rw[Rep]at r₁
 subst r₁
 refine callWith_KW (h₀:=s₁.heap) (hK _ st₁) hk rfl ?_ (by rw[hpl];rfl) (Xt hst)
 refine wpAny_mono (ha.go s₁ st₁) (fun vs s₂ q=> ?_) fun _ _ x=>x.elim
 obtain⟨q,k₂⟩:=q
 show wpAny _ _ (evalAll [_]) _ _ s₂
 refine wpAny_evalAll_cons ?_
 show wpAny _ _ (do let v ←eval ek c.env;standAt pos;pure v) _ _ _
 refine wpAny_bind (wpAny_mono (h vs s₂ q (k₁.trans k₂) (st₁.kp k₂)) (fun kv s₃ q3=> ?_) fun _ _ x=>x)
 refine wpAny_bind (wpAny_standAt (wpAny_pure ?_))
 exact wpAny_evalAll_nil q3
end
section
variable{c:Cx}
theorem Jl{x:Str}{np apos pos:Pos}{e:PySem.Expr}{p:PV}{a:Addr}{its:Array Value}{n:Nat}{s:Shared}{Q E:Value→Shared→Prop}(hs:c.St s)(hx:EvOk c (.Name x np) (.val (.ref a)))(he:EvOk c e p)(hst:XV e=false)(hl:(apos.endLine==pos.line)=true)
(ha:Xp a=false)(hlist:s.heap.get? a=some {cls:=.type "list",data:=.seq its n})(hsz:its.size≤1000)
(h:∀v s₁ h',Rep c.V s₁.heap p v→Kp c.lam s s₁→c.St s₁→Heap.SameBut a s₁.heap h'→h'.get? a=some {cls:=.type "list",data:=.seq (its.push v) (n+1)}→Q .none {s₁ with heap:=h'}):
 wpAny (model pw c.w) c.A (eval (.Call (.Attribute (.Name x np) "append" apos) [e] [] pos) c.env) Q E s:=by
 refine wpAny_Call_append rfl (by rw[Xt hst];rfl) hl (by rw[Xt hst];rfl) (Xi hx hs fun ov s₁ r₁ k₁ st₁=> ?_)
 rw[Rep]at r₁
 subst r₁
 have h1:=k₁.get ha hlist
 refine⟨a,its,rfl,⟨_,n,h1,rfl,rfl,?_⟩,Xi he st₁ fun v s₂ r₂ k₂ st₂=>append_at (k₂.get ha h1) (fun h' hs' hg=>h v s₂ h' r₂ (k₁.trans k₂) st₂ hs' hg) (Nat.le_trans hsz (by decide +kernel))⟩
 all_goals rfl
theorem wp_insert{x:Str}{np apos pos:Pos}{e₁ e₂:PySem.Expr}{i:Nat}{p:PV}{a:Addr}{its:List Value}{n:Nat}{s:Shared}{Q E:Value→Shared→Prop}(hs:c.St s)(hx:EvOk c (.Name x np) (.val (.ref a)))(he:YK c pos [e₁,e₂] [.int i,p])(h1:XV e₁=false)(h2:XV e₂=false)(hl:(apos.endLine==pos.line)=true)
(ha:Xp a=false)(hlist:s.heap.get? a=some {cls:=.type "list",data:=.seq its.toArray n})(hi:i≤its.length)(hsz:its.length≤1000)
(h:∀v s₁ h',Rep c.V s₁.heap p v→Kp c.lam s s₁→c.St s₁→Heap.SameBut a s₁.heap h'→h'.get? a=some {cls:=.type "list",data:=.seq (its.take i++v::its.drop i).toArray (n+1)}→Q .none {s₁ with heap:=h'}):
 wpAny (model pw c.w) c.A (eval (.Call (.Attribute (.Name x np) "insert" apos) [e₁,e₂] [] pos) c.env) Q E s:=by
 refine YN (by rfl) (by rw[Xt h1,Xt h2];rfl) hl (Xi hx hs fun ov s₁ r₁ k₁ st₁ pl=> ?_)
 rw[Rep]at r₁
 subst r₁
 have g1:=k₁.get ha hlist
 refine getMethod_builtin (T:="list") ⟨_,g1,rfl⟩ PySem.F.plainAttrs_list PySem.F.slot_list_insert PySem.F.type_list_insert (fun a e=>by cases e;exact⟨_,g1,rfl⟩) ?_
 show wpAny _ _ (callWith pos (.builtin "list.insert") [.ref a] (backTo pos (starEach [e₁,e₂] c.env)) []) Q E s₁
 have he':=he.go s₁ st₁
 have hex:∃x y,backTo pos (starEach [e₁,e₂] c.env)=[(false,x),(false,y)]:=by
  rw[Xt h1,Xt h2];exact⟨_,_,rfl⟩
 obtain⟨x₁,x₂,hst⟩:=hex
 rw[hst]at he' ⊢
 refine Calls.callWith_builtin rfl (Calls.evalArgs_plain ?_)
 refine wpAny_mono he' (fun vs s₂ q=> ?_) fun _ _ x=>x.elim
 obtain⟨q,k₂⟩:=q
 rw[Xb]at q
 obtain⟨iv,vs,rfl,hiv,q⟩:=q
 rw[Xb]at q
 obtain⟨v,vs,rfl,hv,q⟩:=q
 rw[Xb]at q;subst q
 rw[Rep]at hiv
 obtain⟨t,rfl⟩:=hiv
 have g2:=k₂.get ha g1
 generalize hx':((i:Nat):Int)=x'
 have hz:its.toArray.size≤sizeLine:=Nat.le_trans hsz (by decide +kernel)
 have hfit:Builtin.List.listFitsIndex x'=true:=by
  have:(2 ^ 63:Int)=9223372036854775808:=by decide
  unfold Builtin.List.listFitsIndex
  rw[this]
  simp only[Bool.and_eq_true,decide_eq_true_eq]
  lia
 refine call_meets PySem.F.slot_list_insert ⟨_,g2,rfl⟩ PySem.F.entry_list_insert (PySem.F.args_list_insert_3 _ _ _) (PySem.AutoSeq1.list_insert_list_int_val_1 a _ n x' t v (by rw[hfit];decide) hz) ⟨g2,h v s₂ _ hv (k₁.trans k₂) (st₁.kp k₂) (Heap.SameBut.update ..) ?_⟩
 have q:=PySem.IsL.update g2 (fun xs:Array Value=>have k:=if x'<0 then(x'+(xs.size:Int)).toNat else min x'.toNat xs.size;(xs.extract 0 k).push v++xs.extract k)
 have e:(have k:=if x'<0 then(x'+(its.toArray.size:Int)).toNat else min x'.toNat its.toArray.size;(its.toArray.extract 0 k).push v++its.toArray.extract k)=(its.take i++v::its.drop i).toArray:=by
  show(its.toArray.extract 0 (if x'<0 then(x'+(its.toArray.size:Int)).toNat else min x'.toNat its.toArray.size)).push v++its.toArray.extract (if x'<0 then(x'+(its.toArray.size:Int)).toNat else min x'.toNat its.toArray.size)=_
  rw[kl_ins_eq]
  have hk:(if x'<0 then(x'+(its.toArray.size:Int)).toNat else min x'.toNat its.toArray.size)=i:=by
   rw[if_neg (by lia),List.size_toArray];lia
  rw[hk]
 rw[e,if_neg ?_]at q
 ·exact q
 ·simp
  lia
end
section
variable{c:Cx}
theorem wp_assign{x:Str}{pos' pos:Pos}{e:PySem.Expr}{p:PV}{ρ:List (Str×PV)}{s:Shared}{Q:Flow→Shared→Prop}{E:Value→Shared→Prop}(_:(c.wr ρ).St s)(hk:Storable (c.wr ρ) x)(hs:swapsWith e (some (.Name x pos')) pos.line c.env=pure false)
(h:wpAny (model pw c.w) c.A (eval e c.env) (fun v s₁=>(c.wr ρ).St s₁∧Rep c.V s₁.heap p v∧∀s₂,(c.wr ((x,p)::ρ)).St s₂→KpF c.lam c.fr s₁ s₂→Q .next s₂) E s):
 wpAny (model pw c.w) c.A (exec (.Assign [.Name x pos'] e pos) c.env) Q E s:=by
 rw[exec_Assign_Name _ _ _ _ _ hs]
 refine wpAny_bind (wpAny_standAt (wpAny_bind (wpAny_mono h (fun v s₁ q=> ?_) fun _ _ x=>x)))
 refine wpAny_bind (wpAny_standAt (wpAny_bind (wpAny_bindName (Zj (c:=c.wr ρ) q.1 q.2.1 hk fun s₂ st₂ k₂=>wpAny_pure (q.2.2 s₂ st₂ k₂)))))
theorem Vh{st:Stmt}{o:Out}{s:Shared}{Q:Flow→Shared→Prop}{E:Value→Shared→Prop}(h:ZY c st o)(hs:c.St s)(k:∀f s',VM c o f s'→KpF c.lam c.fr s s'→Q f s'):wpAny (model pw c.w) c.A (exec st c.env) Q E s:=
 wpAny_mono (h.go s hs) (fun f s' q=>k f s' q.1 q.2) fun _ _ x=>x.elim
theorem wp_test{e:PySem.Expr}{b:Bool}{s:Shared}{Q:Bool→Shared→Prop}{E:Value→Shared→Prop}(h:XE c e b)(hs:c.St s)(k:∀s',c.St s'→Kp c.lam s s'→Q b s'):wpAny (model pw c.w) c.A (isTrue e c.env (eval e c.env)) Q E s:=
 wpAny_mono (h.go s hs) (fun x s' q=>by obtain⟨rfl,k'⟩:=q;exact k s' (hs.kp k') k') fun _ _ x=>x.elim
theorem VJ{t:PySem.Expr}{b1 b2:List Stmt}{pos:Pos}{b:Bool}{s:Shared}{Q:Flow→Shared→Prop}{E:Value→Shared→Prop}(ht:XE c t b)(hs:c.St s)(k:∀s',c.St s'→Kp c.lam s s'→wpAny (model pw c.w) c.A (execs (if b then b1 else b2) c.env) Q E s'):wpAny (model pw c.w) c.A (exec (.If t b1 b2 pos) c.env) Q E s:=by
 rw[exec_If]
 refine wpAny_bind (wpAny_standAt (wpAny_bind (wp_test ht hs fun s' st' k'=> ?_)))
 cases b<;>exact k s' st' k'
theorem Xq{st:Stmt}{rest:List Stmt}{s:Shared}{Q:Flow→Shared→Prop}{E:Value→Shared→Prop}(h:wpAny (model pw c.w) c.A (exec st c.env) (fun f s'=>f= .next∧wpAny (model pw c.w) c.A (execs rest c.env) Q E s') E s):wpAny (model pw c.w) c.A (execs (st::rest) c.env) Q E s:=by
 refine wpAny_execs_cons (wpAny_mono h (fun f s' q=> ?_) fun _ _ x=>x)
 obtain⟨rfl,q⟩:=q
 exact q
end
noncomputable def Zr(f:PV→Str)(ps:List PV)(x:Str):Nat:=bis (fun i=> !ltS x (f (ps.getD i elt0))) (ps.length+1) 0 ps.length
theorem VD(go:Nat→Bool):∀(fuel lo hi n:Nat),lo≤n→hi≤n→bis go fuel lo hi≤n
 |0,lo,hi,n,h1,h2=>h1
 |fuel+1,lo,hi,n,h1,h2=>by
  rw[bis]
  split
  ·split
   ·exact VD go fuel _ _ n (by lia) h2
   ·exact VD go fuel _ _ n h1 (by lia)
  ·exact h1
theorem wp_to'{c':Cx}{s:Shared}(_:c'.St s)(b:List Stmt)(Q:Flow→Shared→Prop)(E:Value→Shared→Prop)(h:wpAny (model pw c'.w) c'.A (execs b c'.env) Q E s):wpAny (model pw c'.w) c'.A (execs b c'.env) Q E s:=h
theorem wp_hide'{w:World}{α:Type}{A:Around}{m:Sem α}{Q:α→Shared→Prop}{E:Value→Shared→Prop}{s:Shared}(h:∀Q':α→Shared→Prop,(∀v s',Q v s'→Q' v s')→wpAny (model pw w) A m Q' E s):wpAny (model pw w) A m Q E s:=h Q fun _ _ x=>x
theorem insort_ok{w:World}{g:Nat→Obj}{n:Nat}{objs:List (Addr×Obj)}{ka:Addr}{f:PV→Str}{ps:List PV}{q:PV}(hps:ps.length≤900)(hkey:∀p∈q::ps,Kc w g false n objs (.ref ka) [p] (.str (f p)))(hfun:∃o fd,(ka,o)∈objs∧o.data= .func fd)(h9:∀p∈objs,439≤p.1)
{A:Around}(hh:A.handled=none)(hdep:A.depth+(n+2)<recursionLimit){s:Shared}{ra:Addr}{vs:List Value}{m:Nat}{xv:Value}{tk:Tok}{args:List Value}{kw:List (Str×Value)}(B:Base w g s)(hXO:XO objs s)(hra:439≤ra)(hl:s.heap.get? ra=some {cls:=.type "list",data:=.seq vs.toArray m})
(hr:Xb [] s.heap ps vs)(hx:Rep [] s.heap q xv)
(hbind:∀S,peek [(176,o176 w.params),(177,o177 w.params)] S (bindArgs (fdOf (o184 w.params)) ⟨args,kw⟩)=some ([("a",.ref ra),("x",xv),("lo",.int 0 tk),("hi",.none),("key",.ref ka)]:List (Str×Value))):
 wpAny (model pw w) A (PySem.call (.ref 184) args kw) (fun _ s'=>KpF false [ra] s s'∧∃m',s'.heap.get? ra=some {cls:=.type "list",data:=.seq (vs.take (Zr f ps (f q))++xv::vs.drop (Zr f ps (f q))).toArray m'}) (fun _ _=>False) s:=by
 refine wp_hide' fun Q hQ=> ?_
 have hlen:ps.length=vs.length:=hr.length.symm
 let L:=s.heap.objs.size
 have live:∀p∈objs,p.1≠L:=fun p hp=>Nat.ne_of_lt (Heap.lt_size (hXO p hp))
 have hraL:ra≠L:=Nat.ne_of_lt (Heap.lt_size hl)
 have hK:Frag.In [(176,o176 w.params),(177,o177 w.params)] s.heap:=XD (w:=w) (g:=g) B fun p hp=>by
  rcases mem2 hp with rfl |rfl<;>exact⟨rfl,by kernel_rfl⟩
 let X:Shared→Prop:=fun s'=>XO objs s'∧Rep [L] s'.heap q xv∧Xb [L] s'.heap ps vs∧s'.heap.get? ra=some {cls:=.type "list",data:=.seq vs.toArray m}
 have hclo:(fdOf (o184 w.params)).closure=[]:=by kernel_rfl
 have hX:∀s₁ s',X s₁→KpF false (L::(fdOf (o184 w.params)).closure.map (fun x:Str×Addr=>x.2)) s₁ s'→X s':=fun s₁ s' x k=>by
  rw[hclo]at k
  refine⟨XO.kpf h9 (fun p hp hm=>live p hp (List.mem_singleton.mp hm)) x.1 k,x.2.1.mono fun b d y n hb e=>k.get (Xu hb) (fun mm=>XM hb mm) e,x.2.2.1.mono fun b d y n hb e=>k.get (Xu hb) (fun mm=>XM hb mm) e,k.get (Xv hra) (fun mm=>hraL (List.mem_singleton.mp mm)) x.2.2.2⟩
 have sub:∀b d y n,tb [] b=false→s.heap.get? b=some ⟨d,none,.seq y n,#[]⟩→tb [L] b=false:=fun b d y n hb e=>Yx (Xu hb) fun mm=>by
  rw[List.mem_singleton]at mm
  have:=Heap.lt_size e
  rw[mm]at this
  exact absurd this (Nat.lt_irrefl _)
 refine Zh (l:=false) (V:=[]) (ρb:=((["a","x","lo","hi","key"]:List Str).zip [PV.val (.ref ra),.val xv,.int 0,.none,.val (.ref ka)]).reverse) (ρf:=[]) (X:=X) (fd:=fdOf (o184 w.params)) (body:=fdB (stN 17)) (o:=o184 w.params) (binds:=[("a",.ref ra),("x",xv),("lo",.int 0 tk),("hi",.none),("key",.ref ka)]) hh (by lia) B (fun b hb=>by cases hb) (B.1 184 _ rfl (by kernel_rfl)) (by kernel_rfl)
  ⟨183,o183 w.params,Xn (o183 w.params),2641,by kernel_rfl,B.1 183 _ rfl (by kernel_rfl),by kernel_rfl,by kernel_rfl⟩ (by kernel_rfl) (kp_binds hK hbind) (by kernel_rfl) ?_ (by kernel_rfl) (by kernel_rfl) (by kernel_rfl) (by kernel_rfl) (by kernel_rfl) ?_ (fun x q hx=>by simp at hx) ?_ ?_ hX ⟨hXO,hx.sub sub,hr.sub sub,hl⟩ (fun s₁ k htk st=> ?_)
 ·have hall:((["a","x","lo","hi","key"]:List Str).all fun y=>decide ((fdOf (o184 w.params)).scope.names.lookup y=some .local))=true:=by kernel_rfl
  intro y hy
  refine of_decide_eq_true (List.all_eq_true.mp hall y.1 ?_)
  rcases mem5 hy with rfl |rfl |rfl |rfl |rfl<;>simp
 ·intro x p hxp
  exact XN (x:=x) (q:=p) (ns:=["a","x","lo","hi","key"]) (Xl Xy (Xl Xy (Xl YG (Xl JL (Xl Xy XW))))) (acc:=[]) (acc':=[]) (fun y q hq=>by simp at hq) x p hxp
 ·intro x cc hxc
  rw[hclo]at hxc;cases hxc
 ·intro x y cc hxc
  rw[hclo]at hxc;cases hxc
 ·have hbody:fdB (stN 17)=fdB (stN 17):=rfl
  conv at hbody=>rhs;whnf
  rw[hbody]
  let e₁:Env:=callEnv (fdOf (o184 w.params)) s.heap.objs.size 184
  let A₁:Around:=A.deeper e₁
  let c:Cx:={w:=w,g:=g,A:=A₁,env:=e₁,ρ:=[],lam:=false,V:=[],X:=X,hX:=hX,hh:=hh,kind:=by kernel_rfl,globs:=by kernel_rfl,blts:=by kernel_rfl,ground:=Xs w g}
  let ρ₁:List (Str×PV):=[("key",.val (.ref ka)),("hi",.none),("lo",.int 0),("x",.val xv),("a",.val (.ref ra))]
  have st:(c.wr ρ₁).St s₁:=st
  have go:=wp_to' st
  refine go _ _ _ ?_
  refine Xq (VJ (b:=false) (Xj (p:=.val (.ref ka)) (q:=.none) (Xa rfl rfl rfl rfl) YI ?_ rfl) st fun s₂ st₂ k₂=> ?_)
  ·exact JW rfl
  ·have hs2:=st₂.2.2
   refine Xq (wp_assign st₂ (p:=.int (Zr f ps (f q):Nat)) (.inl rfl) rfl ?_)
   refine KI (fv:=.ref 193) (K:=[(193,o193 w.params)]) st₂ (XA rfl (by kernel_rfl) rfl) (fun s₃ st₃=>XD st₃.1 fun p hp=> ?_) (by kernel_rfl) (ps:=[.val (.ref ra),.str (f q),.int 0,.none]) (Xc (Xa rfl rfl rfl rfl) (Xc ?_ (Xc (Xa rfl rfl rfl rfl) (Xc (Xa rfl rfl rfl rfl) Xd rfl) rfl) rfl) rfl) rfl (fun vs' s₃ r₃ k₃ st₃=> ?_)
   ·simp only[List.mem_cons,List.not_mem_nil,or_false]at hp
    subst hp
    exact⟨rfl,by kernel_rfl⟩
   ·refine ev_callX (a:=ka) (ps:=[.val xv]) (Xa rfl rfl rfl rfl) (Xc (Xa rfl rfl rfl rfl) Xd rfl) rfl ?_ (fun s₃ vs' st₃ hv=> ?_)
    ·obtain⟨o,fd,ho,hd⟩:=hfun
     exact⟨o,fd,fun s₃ st₃=>⟨st₃.2.2.1 _ ho,hd⟩⟩
    ·obtain⟨v1,r1,rfl,h1,hv⟩:=YM hv
     obtain rfl:=Yh hv
     rw[Rep]at h1
     subst h1
     exact hkey q (List.mem_cons_self ..) (A₁) hh (show A.depth+1+n<recursionLimit by lia) [] s₃ _ st₃.1 (fun b hb=>by cases hb) st₃.2.2.1 (Xl (st₃.2.2.2.1.sub fun b d y n hb e=>Yx (Xu hb) (by simp)) XW)
   ·obtain⟨v1,r1,rfl,h1,r₃⟩:=YM r₃
    obtain⟨v2,v3,v4,h2,h3,h4⟩:=Ws r₃
    rw[Rep]at h1
    rw[Rep]at h4
    subst h1 h4
    refine Xi (pv:=.val (.ref ka)) (Xa rfl rfl rfl rfl) st₃ fun kv s₄ r₄ k₄ st₄=> ?_
    rw[Rep]at r₄
    subst r₄
    have xs:=st₄.2.2
    refine⟨?_,?_⟩
    ·exact XD st₄.1 fun p hp=>by
      simp only[List.mem_cons,List.not_mem_nil,or_false]at hp
      subst hp
      exact⟨rfl,by kernel_rfl⟩
    have hrow:Rep [] s₄.heap (.lst ps) (.ref ra):=by
     rw[Rep]
     exact⟨ra,vs.toArray,rfl,Yx (Xv hra) (by simp),⟨m,xs.2.2.2⟩,xs.2.2.1.sub fun b d y n hb e=>Yx (Xu hb) (by simp)⟩
    refine wpAny_mono (bisR_ok (A:=A₁) (l:=false) (V:=[]) (lo:=0) (by lia) (Nat.zero_le _) (fun p hp=>hkey p (List.mem_cons_of_mem _ hp)) hfun h9 hh (show A.depth+1+(n+1)<recursionLimit by lia) st₄.1 (fun b hb=>by cases hb) xs.1 hrow (h2.kp k₄) (h3.kp k₄) (fun S=> ?_)) (fun v s₅ q₅=> ?_) fun _ _ x=>x.elim
    ·kernel_rfl
    ·obtain⟨⟨t,rfl⟩,k₅⟩:=q₅
     have st₅:=st₄.kp k₅
     refine⟨st₅,YG,fun s₆ st₆ k₆=>⟨rfl,wpAny_execs_nil ⟨rfl,?_⟩⟩⟩
     refine Xq (wpAny_Expr_any ?_)
     show wpAny (model pw w) (A₁) (eval _ e₁) _ _ _
     refine(wp_insert st₆ (a:=ra) (its:=vs) (n:=m) (i:=Zr f ps (f q)) (p:=.val xv) (Xa rfl rfl rfl rfl) (Xc (Xa rfl rfl rfl rfl) (Xc (Xa rfl rfl rfl rfl) Xd rfl) rfl) rfl rfl rfl (Xv hra) st₆.2.2.2.2.2 (by rw[←hlen];exact VD _ _ _ _ _ (Nat.zero_le _) (Nat.le_refl _)) (by lia) fun v s₇ h' r₇ k₇ st₇ hsb hg=> ?_)
     refine⟨rfl,wpAny_execs_nil ?_⟩
     rw[Rep]at r₇
     subst r₇
     refine hQ _ _ ⟨?_,_,hg⟩
     have kk:KpF false [L] s s₇:=(((((KpF.of k).trans (.of k₂)).trans (.of k₃)).trans (.of k₄)).trans (.of k₅)).trans (KpF.trans (by rw[show Cx.fr _=L::(fdOf (o184 w.params)).closure.map (fun x:Str×Addr=>x.2)from rfl,hclo]at k₆;exact k₆) (.of k₇))
     obtain⟨h7,t7,rfl,kk⟩:=kk
     exact⟨h',t7,rfl,fun b o n mm e=>hsb.extBut b o (fun q=>mm (by rw[q];exact List.mem_singleton.mpr rfl)) (kk b o n (fun q=>by
      rw[List.mem_singleton]at q
      exact absurd (Heap.lt_size e) (by rw[q];exact Nat.lt_irrefl _)) e)⟩
theorem base_kpf{l:Bool}{F:List Addr}{w:World}{g:Nat→Obj}{s s':Shared}(B:Base w g s)(k:KpF l F s s')(h9:∀b∈F,439≤b):Base w g s':=by
 refine⟨fun b o n e=>k.get n (fun m=>absurd (Us e) (Nat.not_lt.mpr (h9 b m))) (B.1 b o n e),?_⟩
 obtain⟨h,t,rfl,_⟩:=k
 exact B.2
theorem Ua{V:List Addr}{l:Bool}{F:List Addr}{s s':Shared}(x:Yd V s.heap)(k:KpF l F s s')(hl:∀b∈F,∃o,s'.heap.get? b=some o):Yd V s'.heap:=fun b hb=>by
 obtain⟨h1,o,e⟩:=x b hb
 by_cases hF:b∈F
 ·exact⟨h1,hl b hF⟩
 ·exact⟨h1,o,k.get (Xv h1) hF e⟩
noncomputable def Apart(env:Env)(F:List Addr):Prop:=env.locals∉F∧∀x c,env.cells.lookup x=some c→c∉F
theorem frst_kpf{V:List Addr}{env:Env}{ρ:List (Str×PV)}{l:Bool}{F:List Addr}{s s':Shared}(H:FrSt V env ρ s)(k:KpF l F s s')(hF:∀b∈F,b∈V)(ha:Apart env F)(hl:∀b∈F,∃o,s'.heap.get? b=some o):FrSt V env ρ s':=by
 have rr:∀p v,Rep V s.heap p v→Rep V s'.heap p v:=fun p v r=>r.mono fun b c x n hb e=>k.get (Xu hb) (fun m=>XM hb (hF b m)) e
 refine⟨?_,fun x pv hx hk=> ?_,H.high,fun x c hc=>let⟨n,v,o,ho,hd⟩:=H.there x c hc;⟨n,v,o,k.get (Xv n) (ha.2 x c hc) ho,hd⟩,Ua H.vol k hl,H.apart⟩
 ·obtain⟨m,hn,hm⟩:=H.ns
  refine⟨m,JP (fun o e=>k.get H.tab ha.1 e) hn,fun x pv hx hk=> ?_⟩
  obtain⟨v,hv,hr⟩:=hm x pv hx hk
  exact⟨v,hv,rr _ _ hr⟩
 ·obtain⟨c,v,hc,ht,⟨o,ho,hd⟩,hr⟩:=H.cell x pv hx hk
  exact⟨c,v,hc,ht,⟨o,k.get ht (ha.2 x c hc) ho,hd⟩,rr _ _ hr⟩
noncomputable def Cx.ch(c:Cx)(X:Shared→Prop)(hX:∀s s',X s→KpF c.lam (c.env.locals::c.env.cells.map (·.2)) s s'→X s'):Cx:={c with X:=X,hX:=hX}
theorem St.move{c:Cx}{ρ:List (Str×PV)}{l:Bool}{F:List Addr}{s s':Shared}{X:Shared→Prop}{hX}(hs:(c.wr ρ).St s)(k:KpF l F s s')(hF:∀b∈F,b∈c.V)(ha:Apart c.env F)(hl:∀b∈F,∃o,s'.heap.get? b=some o)(x:X s'):((c.ch X hX).wr ρ).St s':=
 ⟨base_kpf hs.1 k fun b hb=>(hs.2.1.vol b (hF b hb)).1,frst_kpf hs.2.1 k hF ha hl,x⟩
theorem KpF.refl{l:Bool}{F:List Addr}(s:Shared):KpF l F s s:=.of (.refl s)
theorem KpF.same{l:Bool}{s:Shared}{a:Addr}{h':Heap}{t:Nat}(hs:Heap.SameBut a s.heap h'):KpF l [a] s {s with heap:=h',toks:=t}:=⟨h',t,rfl,fun b o _ m e=>hs.extBut b o (fun q=>m (by rw[q];exact List.mem_singleton.mpr rfl)) e⟩
theorem KpF.kp{l:Bool}{s s':Shared}(k:KpF l [] s s'):Kp l s s':=let⟨a,t,e,q⟩:=k;⟨a,t,e,fun b o n x=>q b o n (fun y=>by cases y) x⟩
theorem UN{w:World}{A:Around}{E:Value→Shared→Prop}{s:Shared}{K:Frag}{x C dx:Addr}{ox:Obj}{es es':List DictEntry}{n n':Nat}{name:Str}{v:Value}{Q:Unit→Shared→Prop}(X:K.In s.heap)(I:InstAt s.heap x ox C (some (dictOf es n)))(hd:ox.dict=some dx)
(hs:findIn K (.ref C) "__setattr__"=some (some (.builtin "object.__setattr__")))(hp:plainOver K C=true)(ht:takerIn K C name=some none)(hh:hasDictIn K C=true)(hl:(getL name es).isSome=true)
(e:(putL name (PyData.keyHash w.params name) (.str name (s.toks+1)) v es,putN name es n)=(es',n'))(hz:es'.length≤1000)
(h:∀h',Heap.SameBut dx s.heap h'→h'.get? dx=some (dictOf es' n')→Q () {s with heap:=h',toks:=s.toks+2}):
 wpAny (model pw w) A (setAttr (.ref x) name v) Q E s:=by
 obtain⟨e1,e2⟩:=Prod.mk.inj e
 refine set_plain X I hs (osa_open (s:={s with toks:=s.toks+1}) X I hp ht fun b=> ?_)
 obtain⟨cd,hc,hd'⟩:=any_some hh
 obtain⟨hx,hcl,hn,D⟩:=I
 obtain⟨oc,odi,oda,osl⟩:=ox
 dsimp only at hcl hd D
 subst hcl hd
 dsimp only at D
 obtain⟨hh',gg,dd,tt,oss⟩:=s
 refine wpAny_bind (wpAny_pure (wpAny_bind (wpAny_bind (wpAny_loadPart hx (wpAny_bind ((looks_clsIn X hc).at ?_))))))
 rw[hd']
 refine wpAny_pure (a:=some dx) (wpAny_bind (wpAny_pure (wpAny_bind ?_)))
 unfold nsSet
 refine wpAny_bind (wpAny_bind (wpAny_askSetting (wpAny_pure (wpAny_bind (wpAny_mkText (wpAny_bind (wpAny_loadPart D ?_)))))))
 have c:(!(es.toArray.any (·.key.isStr name))&&es.toArray.any (·.refKey))=false:=by
  rw[←Array.any_toList,←Array.any_toList]
  show(!(es.any (·.key.isStr name))&&es.any (·.refKey))=false
  unfold getL at hl
  split at hl
  ·rename_i en he
   rw[List.any_eq_true.mpr ⟨en,List.mem_of_find?_eq_some he,List.find?_some he⟩];rfl
  ·split at hl
   ·cases hl
   ·rename_i z;rw[Bool.not_eq_true]at z;rw[z,Bool.and_false]
 dsimp only
 rw[aRefKeyMayBeTheName_at,c]
 refine wpAny_updatePart D ?_
 have D':(hh'.update dx (Obj.putName name (PyData.keyHash w.params name) (.str name (tt+1)) v)).get? dx=some (dictOf es' n'):=by
  have e3:Obj.putName name (PyData.keyHash w.params name) (.str name (tt+1)) v (dictOf es n)=dictOf es' n':=by rw[putName_dict,e2];congr 1
  rw[Heap.get?_update_self (f:=Obj.putName name (PyData.keyHash w.params name) (.str name (tt+1)) v) (o:=dictOf es n) (h:=hh') D (by rw[e3];rfl),e3]
 refine wpAny_bind (wpAny_lookBehind D' (pastItsLine_dict (by rw[List.size_toArray,sizeLine_eq];lia)) ?_)
 exact wpAny_pure (h _ (Heap.SameBut.update ..) D')
section
variable{c:Cx}
theorem Wg{st:Stmt}{rest:List Stmt}{ρ ρ':List (Str×PV)}{s:Shared}{Q:Flow→Shared→Prop}{E:Value→Shared→Prop}(hs:(c.wr ρ).St s)(h:ZY (c.wr ρ) st (.next ρ'))
(k:∀s',(c.wr ρ').St s'→KpF c.lam c.fr s s'→wpAny (model pw (c.wr ρ').w) (c.wr ρ').A (execs rest (c.wr ρ').env) Q E s'):wpAny (model pw (c.wr ρ).w) (c.wr ρ).A (execs (st::rest) (c.wr ρ).env) Q E s:=
 Xq (c:=c.wr ρ) (Vh h hs fun f s' o k'=>by obtain⟨rfl,st'⟩:=o;exact⟨rfl,k s' st' k'⟩)
theorem Ji{x:Str}{pos' pos:Pos}{e:PySem.Expr}{rest:List Stmt}{ρ:List (Str×PV)}{s:Shared}{Q:Flow→Shared→Prop}{E:Value→Shared→Prop}(hs:(c.wr ρ).St s)(p:PV)(h:EvOk (c.wr ρ) e p)(hk:Storable (c.wr ρ) x)(hsw:swapsWith e (some (.Name x pos')) pos.line (c.wr ρ).env=pure false)
(k:∀s',(c.wr ((x,p)::ρ)).St s'→KpF c.lam c.fr s s'→wpAny (model pw (c.wr ((x,p)::ρ)).w) (c.wr ((x,p)::ρ)).A (execs rest (c.wr ((x,p)::ρ)).env) Q E s'):wpAny (model pw (c.wr ρ).w) (c.wr ρ).A (execs (.Assign [.Name x pos'] e pos::rest) (c.wr ρ).env) Q E s:=Wg hs (Jt h hk hsw) k
theorem Ye{t:PySem.Expr}{b1 b2 rest:List Stmt}{pos:Pos}{b:Bool}{s:Shared}{Q:Flow→Shared→Prop}{E:Value→Shared→Prop}(hs:c.St s)(ht:XE c t b)(k:∀s',c.St s'→Kp c.lam s s'→wpAny (model pw c.w) c.A (execs (if b then b1 else b2) c.env) (fun f s'=>match f with | .next=>wpAny (model pw c.w) c.A (execs rest c.env) Q E s' |f=>Q f s') E s'):wpAny (model pw c.w) c.A (execs (.If t b1 b2 pos::rest) c.env) Q E s:=by
 refine wpAny_execs_cons (VJ ht hs fun s' st' k'=>wpAny_mono (k s' st' k') (fun f s'' q=> ?_) fun _ _ x=>x)
 cases f<;>exact q
end
noncomputable def Thrown(base:Heap)(l:List Env)(s:Shared)(e:Value)(s':Shared):Prop:=
 ∃ea t h' tk,e= .ref ea∧s'={s with heap:=h',toks:=tk}∧Heap.FlyingW base l ea (.type "ValueError") (.ref t) h'∧s.heap.UpToSlots h'
theorem Thrown.leave{M:Model}{A:Around}{E:Value→Shared→Prop}{base:Heap}{env:Env}{outer:List Env}{L:Addr}{s s':Shared}{e:Value}{Q:Unit→Shared→Prop}(hfr:A.frames=some (env::outer))(hf:env.frame=some L)(T:Thrown base (env::outer) s e s')
(hQ:∀s'',Thrown base outer s e s''→Q () s''):wpAny M A (leaving env e) Q E s':=by
 obtain⟨ea,t,h',tk,rfl,rfl,fl,up⟩:=T
 exact wpAny_leaves_onW hfr hf fl fun h'' fl' up'=>hQ _ ⟨ea,t,h'',tk,rfl,rfl,fl',up.trans up'⟩
theorem Thrown.from{base:Heap}{l:List Env}{lm:Bool}{s s₁ s':Shared}{e:Value}(k:Kp false s s₁)(T:Thrown base l s₁ e s'):Thrown base l s e s':=by
 obtain⟨h,t,rfl,k⟩:=k
 obtain⟨ea,t',h',tk,rfl,rfl,fl,up⟩:=T
 exact⟨ea,t',h',tk,rfl,rfl,fl,(Heap.UpToSlots.of_keeps fun b o e=>k b o rfl e).trans up⟩
theorem frames_in{base:Heap}{outer:List Env}{V:List Addr}{env:Env}{ρ:List (Str×PV)}{s s₁:Shared}(hkb:base.StaysIn s.heap)(hl:s.heap.FunFrames base outer)(k:KpF false [s.heap.objs.size] s s₁)(hf:env.frame=some s.heap.objs.size)(hL:env.locals=s.heap.objs.size)(hk:env.scope.kind= .function)(F:FrSt V env ρ s₁):
 base.StaysIn s₁.heap∧s₁.heap.FunFrames base (env::outer):=by
 obtain⟨h,t,rfl,k⟩:=k
 obtain⟨m,hn,_⟩:=F.ns
 rw[hL]at hn
 have k':∀b o,s.heap.get? b=some o→h.get? b=some o:=fun b o e=>k b o rfl (fun q=>by rw[List.mem_singleton]at q;rw[q]at e;exact absurd (Heap.lt_size e) (Nat.lt_irrefl _)) e
 exact⟨fun b o e=>k' b o (hkb b o e),Heap.FunFrames.cons (by rw[hk];decide) hf hn hkb.fresh (hl.of_keeps fun b o e _=>⟨o,k' b o e,rfl⟩)⟩
theorem kpf_here{s s':Shared}(k:KpF false [s.heap.objs.size] s s'):Kp false s s':=(k.drop (G:=[]) fun b hb _=>by rw[List.mem_singleton]at hb;rw[hb];exact Yc _).kp
theorem made_leave{w:World}{A:Around}{E:Value→Shared→Prop}{base:Heap}{env:Env}{outer:List Env}{V:List Addr}{ρ:List (Str×PV)}{s s₁:Shared}{h':Heap}{ea:Addr}{vs:List Value}{Q:Unit→Shared→Prop}(hfr:A.frames=some (env::outer))(hkb:base.StaysIn s.heap)(hl:s.heap.FunFrames base outer)(k:KpF false [s.heap.objs.size] s s₁)
(hf:env.frame=some s.heap.objs.size)(hL:env.locals=s.heap.objs.size)(hk:env.scope.kind= .function)(F:FrSt V env ρ s₁)(hm:Heap.MadeExc s₁.heap h' ea "ValueError" vs)(hQ:∀s'',Thrown base outer s (.ref ea) s''→Q () s''):wpAny (model pw w) A (leaving env (.ref ea)) Q E {s₁ with heap:=h'}:=by
 obtain⟨hkb₁,hl₁⟩:=frames_in hkb hl k hf hL hk F
 refine wpAny_leaves_madeW (h:=s₁.heap) hfr hf hkb₁ hl₁ hm.of fun h'' t fl _ _ up=> ?_
 obtain⟨h,tk,rfl,kk⟩:=kpf_here k
 exact hQ _ ⟨ea,t,h'',tk,rfl,rfl,fl,((Heap.UpToSlots.of_keeps fun b o e=>kk b o rfl e).trans (.of_keeps hm.of.keeps)).trans up⟩
section
variable{c:Cx}
theorem wp_raise{np cpos pos p:Pos}{m:Str}{k:Nat}{s:Shared}{Q:Flow→Shared→Prop}{E:Value→Shared→Prop}(hs:c.St s)(hn:EvOk c (.Name "ValueError" np) (.val (.type "ValueError")))
(h:∀ea s₁ h' vs,Kp c.lam s s₁→Heap.MadeExc s₁.heap h' ea "ValueError" vs→E (.ref ea) {s₁ with heap:=h'}):wpAny (model pw c.w) c.A (exec (.Raise (some (.Call (.Name "ValueError" np) [.Constant (.str m) k p] [] cpos)) none pos) c.env) Q E s:=by
 refine wpAny_Raise_call PySem.F.excCall_ValueError PySem.F.excRaise_ValueError c.hh rfl (Xi hn hs fun v s₁ r₁ k₁ st₁=> ?_)
 rw[Rep]at r₁
 refine⟨r₁,?_⟩
 have hall:YK c cpos [.Constant (.str m) k p] [.str m]:=Xc XK Xd rfl
 refine wpAny_mono (YA (Q:=fun a s'=>a.kw=[]∧a.pos.length≤sizeLine∧Kp c.lam s₁ s') (E:=fun _ _=>False) hall rfl st₁ fun vs s' r k=>⟨rfl,?_,k⟩) (fun a s₂ q=>⟨q.1,q.2.1,fun h' e hm=>h e s₂ h' _ (k₁.trans q.2.2) hm⟩) fun _ _ x=>x.elim
 rw[r.length]
 exact(by decide +kernel:(1≤sizeLine))
end
theorem conv_throw{w:World}{g:Nat→Obj}{x:Str}{b:Bool}(hx:x.length≤1000)(hP:x.cps.toList.any (if b then nmP else vlP)=true){A:Around}(hh:A.handled=none)(hdep:A.depth+1<recursionLimit){V:List Addr}{s:Shared}{sv xv:Value}(B:Base w g s)(hV:Yd V s.heap)(hxv:Rep V s.heap (.str x) xv)
{base:Heap}{outer:List Env}(hfr:A.frames=some outer)(hkb:base.StaysIn s.heap)(hl:s.heap.FunFrames base outer):
 wpAny (model pw w) A (PySem.call (.ref 289) [sv,xv] [("name",.bool b)]) (fun _ _=>False) (Thrown base outer s) s:=by
 have hclo:(fdOf (o289 w.params)).closure=[]:=by kernel_rfl
 refine Zh (l:=false) (V:=V) (ρb:=((["self","value","name"]:List Str).zip [PV.val sv,.str x,.bool b]).reverse) (ρf:=[]) (X:=fun _=>True) (fd:=fdOf (o289 w.params)) (body:=fdB (stM 27 1)) (o:=o289 w.params) (binds:=[("self",sv),("value",xv),("name",.bool b)]) hh (by lia) B hV (B.1 289 _ rfl (by kernel_rfl)) (by kernel_rfl)
  ⟨288,o288 w.params,Xn (o288 w.params),2868,by kernel_rfl,B.1 288 _ rfl (by kernel_rfl),by kernel_rfl,by kernel_rfl⟩ (by kernel_rfl) (kp_binds (K:=[]) (XD B fun p hp=>by cases hp) (fun S=>by kernel_rfl)) (by kernel_rfl) ?_ (by kernel_rfl) (by kernel_rfl) (by kernel_rfl) (by kernel_rfl) (by kernel_rfl) ?_ (fun x q hx=>by simp at hx) ?_ ?_ (fun _ _ _ _=>trivial) trivial (fun s₁ k htk st=> ?_)
 ·have hall:((["self","value","name"]:List Str).all fun y=>decide ((fdOf (o289 w.params)).scope.names.lookup y=some .local))=true:=by kernel_rfl
  intro y hy
  refine of_decide_eq_true (List.all_eq_true.mp hall y.1 ?_)
  rcases mem3 hy with rfl |rfl |rfl<;>simp
 ·intro y p hxp
  exact XN (x:=y) (q:=p) (ns:=["self","value","name"]) (Xl Xy (Xl hxv (Xl (by rw[Rep]) XW))) (acc:=[]) (acc':=[]) (fun y q hq=>by simp at hq) y p hxp
 ·intro x cc hxc
  rw[hclo]at hxc;cases hxc
 ·intro x y cc hxc
  rw[hclo]at hxc;cases hxc
 ·have hbody:fdB (stM 27 1)=fdB (stM 27 1):=rfl
  conv at hbody=>rhs;whnf
  rw[hbody]
  have hs:x.length≤sizeLine:=Nat.le_trans hx (by decide +kernel)
  have kL:∀{s₂:Shared},KpF false ((callEnv (fdOf (o289 w.params)) s.heap.objs.size 289).locals::(callEnv (fdOf (o289 w.params)) s.heap.objs.size 289).cells.map (·.2)) s₁ s₂→KpF false [s.heap.objs.size] s s₂:=fun k'=>(KpF.of k).trans (k'.sub fun b hb=>by
   have e:(callEnv (fdOf (o289 w.params)) s.heap.objs.size 289).cells=[]:=by kernel_rfl
   rw[e]at hb;exact hb)
  have hh':(A.deeper (callEnv (fdOf (o289 w.params)) s.heap.objs.size 289)).frames=some ((callEnv (fdOf (o289 w.params)) s.heap.objs.size 289)::outer):=Around.frames_deeper hfr
  refine Xq (VJ (b:=true) (Xk (Xj (p:=.val (.type "str")) (q:=.val (.type "str")) ?_ (Xm (v:=.type "str") rfl (by kernel_rfl) (by kernel_rfl) rfl) cmp_is_type rfl) (by repeat constructor)) st fun s₂ st₂ k₂=> ?_)
  ·exact XQ (fv:=.type "type") (ps:=[.str x]) (Xm (v:=.type "type") rfl (by kernel_rfl) (by kernel_rfl) rfl) (Xc (Xa rfl rfl rfl rfl) Xd rfl) rfl (.inr (.inl ⟨_,rfl⟩)) call_type_str
  cases b with
  |true=>
   refine Ji st₂ (.val (.ref 254)) (Jp (x:=true) (Yr (p:=.bool true) (Xa rfl rfl rfl rfl) YL rfl) (XA rfl (by kernel_rfl) rfl)) (.inl rfl) rfl fun s₃ st₃ k₃=> ?_
   refine Ye (b:=true) st₃ (Xk (ZC (pat_nm w g) (Xa rfl rfl rfl rfl) (Xa rfl rfl rfl rfl) hs rfl rfl rfl) hP) fun s₄ st₄ k₄=> ?_
   refine Xq (wp_raise st₄ (Xm rfl (by kernel_rfl) (by kernel_rfl) rfl) fun ea s₅ h' vs k₅ hm=> ?_)
   exact made_leave hh' hkb hl (kL ((((KpF.of k₂).trans k₃).trans (.of k₄)).trans (.of k₅))) rfl rfl (by kernel_rfl) (st₄.kp k₅).2.1 hm fun _ T=>T
  |false=>
   refine Ji st₂ (.val (.ref 259)) (Jp (x:=false) (Yr (p:=.bool false) (Xa rfl rfl rfl rfl) YL rfl) (XA rfl (by kernel_rfl) rfl)) (.inl rfl) rfl fun s₃ st₃ k₃=> ?_
   refine Ye (b:=true) st₃ (Xk (ZC (pat_vl w g) (Xa rfl rfl rfl rfl) (Xa rfl rfl rfl rfl) hs rfl rfl rfl) hP) fun s₄ st₄ k₄=> ?_
   refine Xq (wp_raise st₄ (Xm rfl (by kernel_rfl) (by kernel_rfl) rfl) fun ea s₅ h' vs k₅ hm=> ?_)
   exact made_leave hh' hkb hl (kL ((((KpF.of k₂).trans k₃).trans (.of k₄)).trans (.of k₅))) rfl rfl (by kernel_rfl) (st₄.kp k₅).2.1 hm fun _ T=>T
theorem wp_make{w:World}{A:Around}{E:Value→Shared→Prop}{s:Shared}{K:Frag}{C fI:Addr}{args:List Value}{kw:List (Str×Value)}{Q:Value→Shared→Prop}(X:K.In s.heap)(hm:makesIn K C=true)(hi:findIn K (.ref C) "__init__"=some (some (.ref fI)))(hf:typeIn K (.ref fI)=some (.type "function"))
(h:∀x dx s₁,Kp false s s₁→s.heap.objs.size≤dx→dx<x→s₁.heap.get? x=some (instObj C dx)→s₁.heap.get? dx=some emptyDict→
   codeAny (model pw w) (A.under (.builtin "type.__call__" ⟨.ref C::args,kw⟩)) (.call (.ref fI) ⟨.ref x::args,kw⟩) (fun r s'=>match r with | .ok (.ret v)=>v= .none∧Q (.ref x) s' | .ok _=>False | .error e=>E e s') s₁):wpAny (model pw w) A (PySem.call (.ref C) args kw) Q E s:=by
 obtain⟨hh,g,d,t,os⟩:=s
 refine wpAny_call (make_core (makes_of X hm) (looks_findIn X hi) (fun self=>bind_fn X self hf) (.inl rfl) ?_)
 refine codeAny_mono (h (hh.objs.size+1) hh.objs.size ⟨(hh.push emptyDict).push (instObj C hh.objs.size),g,d,t,os⟩ ⟨_,t,rfl,fun b o _ e=>Heap.get?_push_of_some _ (Heap.get?_push_of_some _ e)⟩ (Nat.le_refl _) (Nat.lt_succ_self _) ?_ ?_) fun r s' z=> ?_
 ·have:=Heap.get?_push_size (h:=hh.push emptyDict) (o:=instObj C hh.objs.size) rfl
  rwa [Heap.size_push]at this
 ·exact Heap.get?_push_of_some _ (Heap.get?_push_size _ rfl)
 ·rcases r with e | (v |_ |_ |_)<;>exact z
section
variable{c:Cx}
theorem YB{e:PySem.Expr}{v:Value}{p:PV}(h:EvOk c e (.val v))(hr:∀s,c.St s→Rep c.V s.heap p v):EvOk c e p:=.mk fun s hs=>Xi h hs fun u s' r k st=>by
 rw[Rep]at r
 subst r
 exact⟨hr s' st,k⟩
noncomputable def NewL(c:Cx)(e:PySem.Expr)(ps:List PV):Prop:=∀s,c.St s→wpAny (model pw c.w) c.A (eval e c.env) (fun v s'=>∃a vs,v= .ref a∧439≤a∧s.heap.get? a=none∧s'.heap.get? a=some {cls:=.type "list",data:=.seq (List.toArray vs) 0}∧Xb c.V s'.heap ps vs∧Kp c.lam s s') (fun _ _=>False) s
theorem Jy{l:Bool}{s s':Shared}{a:Addr}(k:Kp l s s')(ha:439≤a)(h:s'.heap.get? a=none):s.heap.get? a=none:=Jo k h ha
theorem YS{pos:Pos}{es:List PySem.Expr}{ps:List PV}(ha:YK c pos es ps)(hl:ps.length≤sizeLine):NewL c (.List es pos) ps:=fun s hs=>by
 refine wpAny_List_spliced (wpAny_mono (ha.go s hs) (fun vs s₁ q=> ?_) fun _ _ x=>x)
 have h9:=(hs.kp q.2).1.size
 exact⟨by rw[q.1.length];exact hl,_,vs,rfl,h9,Jy q.2 h9 (Yc _),Zp rfl,q.1.kp (XZ (l:=c.lam) (s:=s₁) _),q.2.trans (XZ _)⟩
theorem newl_ifexp{t a b:PySem.Expr}{pos:Pos}{x:Bool}{ps:List PV}(ht:XE c t x)(h:NewL c (if x then a else b) ps):NewL c (.IfExp t a b pos) ps:=fun s hs=>by
 refine wpAny_IfExp (wpAny_mono (ht.go s hs) (fun y s' q=> ?_) fun _ _ x=>x)
 obtain⟨rfl,k⟩:=q
 have:=h s' (hs.kp k)
 cases y<;>exact wpAny_mono this (fun v s'' q=>q.imp fun a q=>q.imp fun vs q=>⟨q.1,q.2.1,Jy k q.2.1 q.2.2.1,q.2.2.2.1,q.2.2.2.2.1,k.trans q.2.2.2.2.2⟩) fun _ _ x=>x
theorem nocells{env:Env}(h:env.cells=[]):∀b∈env.cells.map (·.2),∃y,env.cells.lookup y=some b:=fun b hb=>by rw[h]at hb;cases hb
theorem fr_noseqC{s:Shared}(hs:c.St s)(hfr:∀b∈c.env.cells.map (·.2),∃y,c.env.cells.lookup y=some b){b:Addr}{d x n}(e:s.heap.get? b=some ⟨d,none,.seq x n,#[]⟩):b∉c.fr:=fun hm=>by
 rcases List.mem_cons.mp hm with q |q
 ·obtain⟨m,hns,_⟩:=hs.2.1.ns
  exact JO hns _ _ _ (q▸e)
 ·obtain⟨y,hy⟩:=hfr b q
  obtain⟨_,v,o,ho,hd⟩:=hs.2.1.there y b hy
  rw[e]at ho
  obtain rfl:=Option.some.inj ho
  cases hd
theorem Ja{x:Str}{pos' pos:Pos}{e:PySem.Expr}{rest:List Stmt}{ρ:List (Str×PV)}{ps:List PV}{s:Shared}{Q:Flow→Shared→Prop}{E:Value→Shared→Prop}(hs:(c.wr ρ).St s)(h:NewL (c.wr ρ) e ps)(hk:Storable (c.wr ρ) x)(hsw:swapsWith e (some (.Name x pos')) pos.line (c.wr ρ).env=pure false)(hfr:∀b∈c.env.cells.map (·.2),∃y,c.env.cells.lookup y=some b)
(k:∀a vs s₁ s',439≤a→s.heap.get? a=none→s'.heap.get? a=some {cls:=.type "list",data:=.seq (List.toArray vs) 0}→Xb c.V s₁.heap ps vs→Kp c.lam s s₁→(c.wr ((x,.val (.ref a))::ρ)).St s'→KpF c.lam c.fr s₁ s'→wpAny (model pw (c.wr ((x,.val (.ref a))::ρ)).w) (c.wr ((x,.val (.ref a))::ρ)).A (execs rest (c.wr ((x,.val (.ref a))::ρ)).env) Q E s'):wpAny (model pw (c.wr ρ).w) (c.wr ρ).A (execs (.Assign [.Name x pos'] e pos::rest) (c.wr ρ).env) Q E s:=by
 refine Xq (c:=c.wr ρ) ?_
 rw[exec_Assign_Name _ _ _ _ _ hsw]
 refine wpAny_bind (wpAny_standAt (wpAny_bind (wpAny_mono (h s hs) (fun v s₁ q=> ?_) fun _ _ x=>x.elim)))
 obtain⟨a,vs,rfl,h9,hn,hg,hr,k₁⟩:=q
 have st₁:(c.wr ρ).St s₁:=hs.kp k₁
 exact wpAny_bind (wpAny_standAt (wpAny_bind (wpAny_bindName (Zj (p:=.val (.ref a)) st₁ (by rw[Rep]) hk fun s₂ st₂ k₂=>wpAny_pure ⟨rfl,k a vs s₁ s₂ h9 hn (k₂.get (Xv h9) (fr_noseqC (c:=c.wr ρ) st₁ hfr hg) hg) hr k₁ st₂ k₂⟩))))
theorem cmp_isnot_type{T U:String}:Zi c .IsNot (.val (.type T)) (.val (.type U)) (!(Value.type T==Value.type U)):=fun s v u hs h1 h2=>by
 rw[Rep]at h1
 rw[Rep]at h2
 subst h1 h2
 exact wpAny_isNot_plain rfl ⟨rfl,.refl s⟩
theorem call_type_lst{l:List PV}:ZZ c (.type "type") [.lst l] (.val (.type "list")):=fun s vs hs h=>by
 obtain⟨v,h1⟩:=Uv h
 rw[Rep]at h1
 obtain⟨a,vs,rfl,_,hl,_⟩:=h1
 exact call_type_of hl.isList.typeIs (by decide) ⟨by rw[Rep],.refl s⟩
theorem wp_setattr{n attr:Str}{np ap pos:Pos}{x C dx:Addr}{ox:Obj}{es:List DictEntry}{m m':Nat}{v:Value}{K:Frag}{s:Shared}{Q:Flow→Shared→Prop}{E:Value→Shared→Prop}(hs:c.St s){e:PySem.Expr}(hv:EvOk c e (.val v))(hn:EvOk c (.Name n np) (.val (.ref x)))(hK:∀s,c.St s→K.In s.heap)(I:∀s,c.St s→InstAt s.heap x ox C (some (dictOf es m)))(hd:ox.dict=some dx)
(hsw:swapsWith e (some (.Attribute (.Name n np) attr ap)) pos.line c.env=pure false)
(hset:findIn K (.ref C) "__setattr__"=some (some (.builtin "object.__setattr__")))(hp:plainOver K C=true)(ht:takerIn K C attr=some none)(hh:hasDictIn K C=true)(hl:(getL attr es).isSome=true)(hm:putN attr es m=m')(hz:∀t,(putL attr (PyData.keyHash c.w.params attr) (.str attr t) v es).length≤1000)
(h:∀t s₁ h',Kp c.lam s s₁→c.St s₁→Heap.SameBut dx s₁.heap h'→h'.get? dx=some (dictOf (putL attr (PyData.keyHash c.w.params attr) (.str attr t) v es) m')→Q .next {s₁ with heap:=h',toks:=s₁.toks+2}):
 wpAny (model pw c.w) c.A (exec (.Assign [.Attribute (.Name n np) attr ap] e pos) c.env) Q E s:=by
 refine plainObj_wpAny_Assign_Attribute (Xi hv hs fun v₁ s₁ r₁ k₁ st₁=> ?_) hsw
 rw[Rep]at r₁
 subst r₁
 refine Xi hn st₁ fun v₂ s₂ r₂ k₂ st₂=> ?_
 rw[Rep]at r₂
 subst r₂
 exact UN (hK s₂ st₂) (I s₂ st₂) hd hset hp ht hh hl (by rw[hm]) (hz _) fun h' hs' hg=>h _ s₂ h' (k₁.trans k₂) st₂ hs' hg
end
theorem Xx{c':Cx}{s:Shared}(_:c'.St s)(b:List Stmt)(Q:Flow→Shared→Prop)(E:Value→Shared→Prop)(h:wpAny (model pw c'.w) c'.A (execs b c'.env) Q E s):wpAny (model pw c'.w) c'.A (execs b c'.env) Q E s:=h
theorem St.look{c:Cx}{ρ:List (Str×PV)}{s:Shared}{X:Shared→Prop}{hX}(hs:(c.wr ρ).St s)(x:X s):((c.ch X hX).wr ρ).St s:=⟨hs.1,hs.2.1,x⟩
theorem Wf{l:Bool}{objs:List (Addr×Obj)}{fd:FuncData}{L a:Addr}(h9:∀p∈objs,439≤p.1)(hne:∀p∈objs,p.1≠L)(hclo:fd.closure=[]):∀s₁ s',XO objs s₁→KpF l (L::fd.closure.map (fun x:Str×Addr=>x.2)) s₁ s'→XO objs s':=fun s₁ s' x k=>XO.kpf h9 (fun p hp hm=>by
 rcases List.mem_cons.mp hm with q |q
 ·exact hne p hp q
 ·rw[hclo]at q;cases q) x k
theorem Yi{a:Addr}{o:Obj}{s:Shared}(h:s.heap.get? a=some o){r:List (Addr×Obj)}(hr:XO r s):XO ((a,o)::r) s:=fun p hp=>by
 rcases Xz.mp hp with rfl |q
 ·exact h
 ·exact hr p q
theorem UT{names:List (Str×NameKind)}{ns:List Str}{vs:List Value}(h:(ns.all fun x=>decide (names.lookup x=some .local))=true):∀x∈ns.zip vs,names.lookup x.1=some .local:=fun x hx=>
 of_decide_eq_true (List.all_eq_true.mp h _ (List.of_mem_zip (a:=x.1) (b:=x.2) hx).1)
inductive NewHd(s:Shared)(v:Value)(s':Shared):Prop
 |mk (sx dx hl:Addr) (e:v= .ref sx) (h:YJ s'.heap sx dx hl) (hl':s'.heap.get? hl=some {cls:=.type "list",data:=.seq #[] 0}) (h9:439≤hl) (n1:s.heap.get? sx=none) (n2:s.heap.get? dx=none) (n3:s.heap.get? hl=none) (k:Kp false s s')
theorem wp_hideH{w:World}{α:Type}{A:Around}{m:Sem α}{Q:α→Shared→Prop}{E:Value→Shared→Prop}{s:Shared}(h:∀Q':α→Shared→Prop,(∀v s',Q v s'→Q' v s')→wpAny (model pw w) A m Q' E s):wpAny (model pw w) A m Q E s:=h Q fun _ _ x=>x
theorem make_headers{w:World}{g:Nat→Obj}{A:Around}(hh:A.handled=none)(hdep:A.depth+2<recursionLimit){s:Shared}(B:Base w g s):
 wpAny (model pw w) A (PySem.call (.ref 388) []) (NewHd s) (fun _ _=>False) s:=by
 refine wp_hideH fun Q hQ=> ?_
 refine wp_make (fI:=282) (YU B) (by kernel_rfl) (by kernel_rfl) (by kernel_rfl) fun x dx s₁ k₁ hdx hxd hx hd=> ?_
 have B₁:=B.kp k₁
 have h9d:439≤dx:=Nat.le_trans B.size hdx
 have h9x:439≤x:=Nat.le_trans h9d (Nat.le_of_lt hxd)
 have hclo:(fdOf (o282 w.params)).closure=[]:=by kernel_rfl
 have hLx:x≠s₁.heap.objs.size:=Nat.ne_of_lt (Heap.lt_size hx)
 have hLd:dx≠s₁.heap.objs.size:=Nat.ne_of_lt (Heap.lt_size hd)
 let objs:List (Addr×Obj):=[(x,instObj 388 dx),(dx,emptyDict)]
 have hm9:∀p∈objs,439≤p.1:=fun p hp=>by
  rcases mem2 hp with rfl |rfl<;>assumption
 have hmL:∀p∈objs,p.1≠s₁.heap.objs.size:=fun p hp=>by
  rcases mem2 hp with rfl |rfl<;>assumption
 have hX:=Wf (l:=false) (a:=282) hm9 hmL hclo
 have hdp:(A.under (Code.builtin "type.__call__" ⟨[Value.ref 388],[]⟩)).depth<recursionLimit:=by
  have e:(Code.builtin "type.__call__" ⟨[Value.ref 388],[]⟩).weight=1:=by kernel_rfl
  show A.depth+_<_
  rw[e];lia
 refine KB (l:=false) (V:=[dx]) (ρb:=((["self","headers"]:List Str).zip [PV.val (.ref x),.none]).reverse) (ρf:=[]) (X:=XO objs) (fd:=fdOf (o282 w.params)) (body:=fdB (stM 27 0)) (o:=o282 w.params) (binds:=[("self",.ref x),("headers",.none)]) hh hdp B₁ (fun b hb=>by rw[List.mem_singleton]at hb;rw[hb];exact⟨h9d,_,hd⟩) (B₁.1 282 _ rfl (by kernel_rfl)) (by kernel_rfl)
  ⟨281,o281 w.params,Xn (o281 w.params),2858,by kernel_rfl,B₁.1 281 _ rfl (by kernel_rfl),by kernel_rfl,by kernel_rfl⟩ (by kernel_rfl) (kp_binds (K:=[(275,o275 w.params)]) (XD B₁ fun p hp=>by rw[List.mem_singleton]at hp;subst hp;exact⟨rfl,by kernel_rfl⟩) (fun S=>by kernel_rfl)) (by kernel_rfl) (UT (ns:=["self","headers"]) (vs:=[.ref x,.none]) (by kernel_rfl)) (by kernel_rfl) (by kernel_rfl) (by kernel_rfl) (by kernel_rfl) (by kernel_rfl) ?_ (fun x q hx=>by simp at hx) (fun x c hx=>by rw[hclo]at hx;simp at hx) (fun x y c hx=>by rw[hclo]at hx;simp at hx) hX (Yi hx (Yi hd KY)) (fun s₂ k₂ htk st=> ?_)
 ·intro y p hxp
  exact XN (x:=y) (q:=p) (ns:=["self","headers"]) (Xl Xy (Xl JL XW)) (acc:=[]) (acc':=[]) (fun y q hq=>by simp at hq) y p hxp
 ·have hbody:fdB (stM 27 0)=fdB (stM 27 0):=rfl
  conv at hbody=>rhs;whnf
  rw[hbody]
  let e₁:Env:=callEnv (fdOf (o282 w.params)) s₁.heap.objs.size 282
  let A₁:Around:=(A.under (Code.builtin "type.__call__" ⟨[Value.ref 388],[]⟩)).deeper e₁
  let c:Cx:={w:=w,g:=g,A:=A₁,env:=e₁,ρ:=[],lam:=false,V:=[dx],X:=XO objs,hX:=hX,hh:=hh,kind:=by kernel_rfl,globs:=by kernel_rfl,blts:=by kernel_rfl,ground:=Xs w g}
  let ρ₁:List (Str×PV):=[("headers",.none),("self",.val (.ref x))]
  have st:(c.wr ρ₁).St s₂:=st
  have go:=Xx st
  refine go _ _ _ ?_
  refine Ja (ps:=[]) st (newl_ifexp (x:=false) (Xk (Xj (p:=.none) (q:=.none) (Xa rfl rfl rfl rfl) YI (YQ rfl) rfl) rfl) (YS Xd (by decide))) (.inl rfl) rfl (nocells (by kernel_rfl)) fun hl vs s₃ s₄ h9 hn hg hr k₃ st₄ k₄=> ?_
  obtain rfl:=Yh hr
  let objs2:List (Addr×Obj):=(hl,{cls:=.type "list",data:=.seq #[] 0})::objs
  have hlL:hl≠s₁.heap.objs.size:=fun q=>by
   obtain⟨m,⟨o,_,_,ho,_⟩,_⟩:=st.2.1.ns
   have ho':s₂.heap.get? s₁.heap.objs.size=some o:=ho
   rw[q,ho']at hn;cases hn
  have hx2:=Wf (l:=false) (a:=282) (objs:=objs2) (fun p hp=>by
   rcases Xz.mp hp with rfl |q
   ·exact h9
   ·exact hm9 p q) (fun p hp=>by
   rcases Xz.mp hp with rfl |q
   ·exact hlL
   ·exact hmL p q) hclo
  let ρ₄:List (Str×PV):=("headers",.val (.ref hl))::ρ₁
  let c₅:Cx:=c.ch (XO objs2) hx2
  have st₅:(c₅.wr ρ₄).St s₄:=St.look (X:=XO objs2) (hX:=hx2) st₄ (Yi hg st₄.2.2)
  have to₅:=Xx st₅
  refine to₅ _ _ _ ?_
  have rl:∀{objs3:List (Addr×Obj)} {s':Shared},(hl,({cls:=.type "list",data:=.seq #[] 0}:Obj))∈objs3→XO objs3 s'→Rep [dx] s'.heap (.lst []) (.ref hl):=fun{objs3 s'} hm xo=>by
   rw[Rep]
   refine⟨hl,#[],rfl,Yx (Xv h9) fun m=> ?_,⟨0,xo _ hm⟩,XW⟩
   rw[List.mem_singleton]at m
   rw[m]at hn
   rw[k₂.get (Xv h9d) hd]at hn
   cases hn
  refine Ye (b:=false) st₅ (Xk (Xj (p:=.val (.type "list")) (q:=.val (.type "list")) (XQ (fv:=.type "type") (ps:=[.lst []]) (Xm (v:=.type "type") rfl (by kernel_rfl) (by kernel_rfl) rfl) (Xc (YB (Xa rfl rfl rfl rfl) fun s' st'=>rl (List.mem_cons_self ..) st'.2.2) Xd rfl) rfl (.inr (.inl ⟨_,rfl⟩)) call_type_lst) (Xm (v:=.type "list") rfl (by kernel_rfl) (by kernel_rfl) rfl) cmp_isnot_type rfl) (by repeat constructor)) fun s₆ st₆ k₆=> ?_
  refine wpAny_execs_nil ?_
  have xo₆:XO objs2 s₆:=st₆.2.2
  refine Xq (wp_setattr (x:=x) (C:=388) (dx:=dx) (ox:=instObj 388 dx) (es:=[]) (m:=0) (m':=1) (K:=KHd w.params) st₆ (Xa rfl rfl rfl rfl) (Xa rfl rfl rfl rfl) (fun s' st'=>YU st'.1) (fun s' st'=> ?_) rfl (by rfl) (by kernel_rfl) (by kernel_rfl) (by kernel_rfl) (by kernel_rfl) (by kernel_rfl) rfl (fun t=>Nat.le_of_ble_eq_true rfl) (fun t s₇ h' k₇ st₇ hsb hg'=>⟨rfl,?_⟩))
  ·have xo:XO objs2 s':=st'.2.2
   exact⟨xo (x,instObj 388 dx) (by simp[objs2,objs]),rfl,rfl,xo (dx,emptyDict) (by simp[objs2,objs])⟩
  ·have xo₇:XO objs2 s₇:=st₇.2.2
   have k₈:KpF false [dx] s₇ {s₇ with heap:=h',toks:=s₇.toks+2}:=.same hsb
   have ne:∀p:Addr×Obj,p∈objs2→p.1≠dx→h'.get? p.1=some p.2:=fun p hp hne=>hsb.extBut _ _ hne (xo₇ p hp)
   have hxd':x≠dx:=fun q=>Nat.lt_irrefl _ (q▸hxd)
   have hld':hl≠dx:=fun q=>by
    rw[q]at hn
    rw[k₂.get (Xv h9d) hd]at hn
    cases hn
   let objs3:List (Addr×Obj):=[(hl,{cls:=.type "list",data:=.seq #[] 0}),(x,instObj 388 dx),(dx,dictOf [⟨PyData.keyHash w.params "_headers",.str "_headers" t,.ref hl⟩] 1)]
   have hx3:=Wf (l:=false) (a:=282) (objs:=objs3) (fun p hp=>by
    rcases mem3 hp with rfl |rfl |rfl
    ·exact h9
    ·exact h9x
    ·exact h9d) (fun p hp=>by
    rcases mem3 hp with rfl |rfl |rfl
    ·exact hlL
    ·exact hLx
    ·exact hLd) hclo
   let c₈:Cx:=c₅.ch (XO objs3) hx3
   have st₈:(c₈.wr ρ₄).St {s₇ with heap:=h',toks:=s₇.toks+2}:=St.move (c:=c₅) (X:=XO objs3) (hX:=hx3) (F:=[dx]) st₇ k₈ (fun b hb=>hb) ⟨fun m=>hLd (List.mem_singleton.mp m).symm,fun y cc hy=>by
    have e:((fdOf (o282 w.params)).closure).lookup y=some cc:=hy
    rw[hclo]at e;cases e⟩ (fun b hb=>by rw[List.mem_singleton]at hb;subst hb;exact⟨_,hg'⟩) (Yi (ne (hl,_) (by simp[objs2]) hld') (Yi (ne (x,_) (by simp[objs2,objs]) hxd') (Yi hg' KY)))
   have to₈:=Xx st₈
   refine to₈ _ _ _ ?_
   refine Ye (b:=true) st₈ (Yr (p:=.bool true) JB YL rfl) fun s₉ st₉ k₉=> ?_
   refine Wg st₉ (Vl (ps:=[]) (YF (YB (p:=.lst []) (Xa rfl rfl rfl rfl) fun s' st'=>rl (List.mem_cons_self ..) st'.2.2) YX) (fun _=>rfl) rfl (by kernel_rfl) (.nil (ρ':=[]) fun x q h=>by simp at h)) fun s₁₀ st₁₀ k₁₀=> ?_
   refine wpAny_execs_nil (wpAny_execs_nil ?_)
   have xo:XO objs3 s₁₀:=st₁₀.2.2
   have kk:KpF false [s₁.heap.objs.size,dx] s s₁₀:=by
    have f:∀{a b:Shared},KpF false (e₁.locals::e₁.cells.map (·.2)) a b→KpF false [s₁.heap.objs.size,dx] a b:=fun k=>k.sub fun b hb=>by
     have e:e₁.cells=[]:=by kernel_rfl
     rw[e]at hb
     simp only[List.map_nil,List.mem_singleton]at hb
     rw[hb];exact List.mem_cons_self ..
    exact(((((((((KpF.of k₁).trans (.of k₂)).trans (.of k₃)).trans (f k₄)).trans (.of k₆)).trans (.of k₇)).trans (k₈.sub fun b hb=>List.mem_cons_of_mem _ hb)).trans (.of k₉)).trans (f k₁₀))
   have fresh:∀b,439≤b→s₁.heap.objs.size≤b→s.heap.get? b=none:=fun b h9 hb=>Jy k₁ h9 (by
    cases e:s₁.heap.get? b with
    |none=>rfl
    |some o=>exact absurd (Heap.lt_size e) (Nat.not_lt.mpr hb))
   have fresh0:∀b,s.heap.objs.size≤b→s.heap.get? b=none:=fun b hb=>by
    cases e:s.heap.get? b with
    |none=>rfl
    |some o=>exact absurd (Heap.lt_size e) (Nat.not_lt.mpr hb)
   refine⟨rfl,hQ _ _ ⟨x,dx,hl,rfl,⟨⟨h9x,h9d⟩,⟨_,xo (x,instObj 388 dx) (.tail _ (.head _))⟩,⟨_,_,_,xo (dx,dictOf [⟨PyData.keyHash w.params "_headers",.str "_headers" t,.ref hl⟩] 1) (.tail _ (.tail _ (.head _)))⟩⟩,xo (hl,{cls:=.type "list",data:=.seq #[] 0}) (.head _),h9,fresh0 _ (Nat.le_trans hdx (Nat.le_of_lt hxd)),fresh0 _ hdx,Jy k₁ h9 (Jy k₂ h9 hn),?_⟩⟩
   exact(kk.drop (G:=[]) fun b hb _=>by
    rcases mem2 hb with rfl |rfl
    ·exact fresh _ B₁.size (Nat.le_refl _)
    ·exact fresh0 _ hdx).kp
noncomputable abbrev mkC(w:World)(g:Nat→Obj)(A:Around)(fd:FuncData)(L a:Addr)(l:Bool)(V:List Addr)(X:Shared→Prop)(hX:∀s₁ s',X s₁→KpF l (L::fd.closure.map (fun x:Str×Addr=>x.2)) s₁ s'→X s')(hh:A.handled=none)(hk:fd.scope.kind= .function)(hgl:fd.globals=mainGlobals)(hbl:fd.builtins=builtinsNs):Cx:=
 {w:=w,g:=g,A:=A.deeper (callEnv fd L a),env:=callEnv fd L a,ρ:=[],lam:=l,V:=V,X:=X,hX:=hX,hh:=hh,kind:=hk,globs:=hgl,blts:=hbl,ground:=Xs w g}
theorem enter_psC{w:World}{g:Nat→Obj}{l:Bool}{V:List Addr}{A:Around}{a c':Addr}{o oc:Obj}{cvs:Array Value}{ct:Tok}{fd:FuncData}{body:List Stmt}{ns:List Str}{ps:List PV}{vs args:List Value}{kw:List (Str×Value)}{X:Shared→Prop}{s s₀:Shared}{Q E:Value→Shared→Prop}
(ho:(S35 w g).heap.get? a=some o)(ha:Xp a=false)(hd:o.data= .func fd)(hcode:fd.code= .ref c')(hoc:(S35 w g).heap.get? c'=some oc)(hc':Xp c'=false)(hdc:oc.data= .fields cvs)(hcn:cvs[1]? =some (.str fd.qualname ct))(hbody:fd.body= .stmts body)
(hbind:∀(M:Model) (A:Around) (E:Value→Shared→Prop) (Q:List (Str×Value)→Shared→Prop),Q (ns.zip vs) s₀→wpAny M A (bindArgs fd ⟨args,kw⟩) Q E s)(k0:Kp false s s₀)(hclo:fd.closure=[])
(hloc:(ns.all fun x=>decide (fd.scope.names.lookup x=some .local))=true)(hcell:(fd.scope.names.all fun x=>x.2 != .cell)=true)
(hgl:fd.globals=mainGlobals)(hbl:fd.builtins=builtinsNs)(hco:fd.scope.isCoroutine=false)(hgen:fd.scope.isGenerator=false)(hk:fd.scope.kind= .function)
(hh:A.handled=none)(hroom:A.depth<recursionLimit)(B:Base w g s)(hV:Yd V s₀.heap)(hr:Xb V s₀.heap ps vs)(hX:∀s₁ s',X s₁→KpF l [s₀.heap.objs.size] s₁ s'→X s')(hXs:X s₀)
(h:∀(s₁:Shared) (hX':∀s₁ s',X s₁→KpF l (s₀.heap.objs.size::fd.closure.map (fun x:Str×Addr=>x.2)) s₁ s'→X s'),Kp false s₀ s₁→Cx.St (Cx.wr (mkC w g A fd s₀.heap.objs.size a l V X hX' hh hk hgl hbl) ((ns.zip ps).reverse++[])) s₁→
   wpAny (model pw w) (A.deeper (callEnv fd s₀.heap.objs.size a)) (execs body (callEnv fd s₀.heap.objs.size a)) (fun f s'=>Q (UQ f) s')
    (fun e s'=>wpAny (model pw w) (A.deeper (callEnv fd s₀.heap.objs.size a)) (leaving (callEnv fd s₀.heap.objs.size a) e) (fun _ s''=>E e s'') (fun e' s''=>E e' s'') s') s₁):
 codeAny (model pw w) A (.call (.ref a) ⟨args,kw⟩) (fun r s'=>match r with | .ok (.ret v)=>Q v s' | .ok _=>False | .error e=>E e s') s:=by
 refine(codeAny_call_function (fd:=fd) hroom (B.1 _ _ ha ho) hd hco hgen hbody ⟨c',oc,cvs,ct,hcode,B.1 _ _ hc' hoc,hdc,hcn⟩ (hbind _ _ _ _ ?_))
 have B₀:=B.kp k0
 have hX':∀s₁ s',X s₁→KpF l (s₀.heap.objs.size::fd.closure.map (fun x:Str×Addr=>x.2)) s₁ s'→X s':=fun s₁ s' x k=>hX s₁ s' x (by rw[hclo]at k;exact k)
 refine wpAny_newFunctionEnv (fun x hx=>by have:=List.all_eq_true.mp hcell x hx;simpa using this) (UT hloc) (fun h₀ hns₀ hsb₀=>⟨B₀.nolimit.fresh _ hsb₀,codeAny_func ?_⟩) hk
 have hk0:∀b o,s₀.heap.get? b=some o→h₀.get? b=some o:=fun b o e=>hsb₀.extBut b o (Nat.ne_of_lt (Heap.lt_size e)) (Heap.get?_push_of_some _ e)
 have k:Kp false s₀ {s₀ with heap:=h₀,toks:=s₀.toks+(ns.zip vs).length}:=⟨h₀,_,rfl,fun b o _ e=>hk0 b o e⟩
 refine wpAny_mono (h _ hX' k ⟨B₀.kp k,⟨⟨_,hns₀,fun x pv hx hkx=> ?_⟩,fun x pv hx hkx=> ?_,B₀.size,fun x c hx=> ?_,hV.kp k,fun x y c hx=> ?_⟩,hX _ _ hXs (.of k.weak)⟩) (fun f s' q=>by cases f<;>exact q) fun e s' q=>q
 ·have hx:((ns.zip ps).reverse++[]).lookup x=some pv:=hx
  rw[List.append_nil]at hx
  exact XN (x:=x) (q:=pv) (hr.kp k) (acc:=[]) (acc':=[]) (fun y q hq=>by simp at hq) x pv hx
 ·exfalso
  have hx:((ns.zip ps).reverse++[]).lookup x=some pv:=hx
  rw[List.append_nil]at hx
  have h1:x∈ns:=by
   have:=mem_of_lookup hx
   rw[List.mem_reverse]at this
   exact(List.of_mem_zip this).1
  have h2:fd.scope.names.lookup x=some .local:=of_decide_eq_true (List.all_eq_true.mp hloc _ h1)
  rcases hkx with e |e<;>(have e':fd.scope.names.lookup x=_:=e;rw[h2]at e';cases e')
 ·have e:fd.closure.lookup x=some c:=hx
  rw[hclo]at e;simp at e
 ·have e:fd.closure.lookup x=some c:=hx
  rw[hclo]at e;simp at e
theorem KU{w:World}{g:Nat→Obj}{l:Bool}{V:List Addr}{A:Around}{a c':Addr}{o oc:Obj}{cvs:Array Value}{ct:Tok}{fd:FuncData}{body:List Stmt}{ns:List Str}{ps:List PV}{vs args:List Value}{kw:List (Str×Value)}{X:Shared→Prop}{s s₀:Shared}{Q E:Value→Shared→Prop}
(ho:(S35 w g).heap.get? a=some o)(ha:Xp a=false)(hd:o.data= .func fd)(hcode:fd.code= .ref c')(hoc:(S35 w g).heap.get? c'=some oc)(hc':Xp c'=false)(hdc:oc.data= .fields cvs)(hcn:cvs[1]? =some (.str fd.qualname ct))(hbody:fd.body= .stmts body)
(hbind:∀(M:Model) (A:Around) (E:Value→Shared→Prop) (Q:List (Str×Value)→Shared→Prop),Q (ns.zip vs) s₀→wpAny M A (bindArgs fd ⟨args,kw⟩) Q E s)(k0:Kp false s s₀)(hclo:fd.closure=[])
(hloc:(ns.all fun x=>decide (fd.scope.names.lookup x=some .local))=true)(hcell:(fd.scope.names.all fun x=>x.2 != .cell)=true)
(hgl:fd.globals=mainGlobals)(hbl:fd.builtins=builtinsNs)(hco:fd.scope.isCoroutine=false)(hgen:fd.scope.isGenerator=false)(hk:fd.scope.kind= .function)
(hh:A.handled=none)(hroom:A.depth<recursionLimit)(B:Base w g s)(hV:Yd V s₀.heap)(hr:Xb V s₀.heap ps vs)(hX:∀s₁ s',X s₁→KpF l [s₀.heap.objs.size] s₁ s'→X s')(hXs:X s₀)
(h:∀(s₁:Shared) (hX':∀s₁ s',X s₁→KpF l (s₀.heap.objs.size::fd.closure.map (fun x:Str×Addr=>x.2)) s₁ s'→X s'),Kp false s₀ s₁→Cx.St (Cx.wr (mkC w g A fd s₀.heap.objs.size a l V X hX' hh hk hgl hbl) ((ns.zip ps).reverse++[])) s₁→
   wpAny (model pw w) (A.deeper (callEnv fd s₀.heap.objs.size a)) (execs body (callEnv fd s₀.heap.objs.size a)) (fun f s'=>Q (UQ f) s')
    (fun e s'=>wpAny (model pw w) (A.deeper (callEnv fd s₀.heap.objs.size a)) (leaving (callEnv fd s₀.heap.objs.size a) e) (fun _ s''=>E e s'') (fun e' s''=>E e' s'') s') s₁):
 wpAny (model pw w) A (PySem.call (.ref a) args kw) Q E s:=wpAny_call (enter_psC ho ha hd hcode hoc hc' hdc hcn hbody hbind k0 hclo hloc hcell hgl hbl hco hgen hk hh hroom B hV hr hX hXs h)
theorem Yt{l:Bool}{fd:FuncData}{L a:Addr}(hclo:fd.closure=[]){s s':Shared}{F:List Addr}(hL:L∈F)(k:KpF l ((callEnv fd L a).locals::(callEnv fd L a).cells.map (·.2)) s s'):KpF l F s s':=k.sub fun b hb=>by
 have e:(callEnv fd L a).cells=fd.closure:=rfl
 rw[e,hclo]at hb
 simp only[List.map_nil,List.mem_singleton]at hb
 rw[hb];exact hL
theorem Ks{fd:FuncData}{L a:Addr}(hclo:fd.closure=[]){F:List Addr}(h:L∉F):Apart (callEnv fd L a) F:=⟨h,fun x c hc=>by
 have e:fd.closure.lookup x=some c:=hc
 rw[hclo]at e;simp at e⟩
theorem Yl{s:Shared}{a b:Addr}{o:Obj}(h:s.heap.get? a=some o)(hb:s.heap.get? b=none):a≠b:=fun q=>by rw[q,hb]at h;cases h
theorem bind_add{P:Params}{x n v:Value}{s:Shared}(M:Model)(A:Around)(E:Value→Shared→Prop)(Q:List (Str×Value)→Shared→Prop)
(h:Q ((["self","_name","_value","_params"]:List Str).zip [x,n,v,.ref s.heap.objs.size]) {s with heap:=s.heap.push emptyDict}):wpAny M A (bindArgs (fdOf (o385 P)) ⟨[x,n,v],[]⟩) Q E s:=by
 have e:bindArgs (fdOf (o385 P)) ⟨[x,n,v],[]⟩=(alloc emptyDict >>= fun d=>pure ((["self","_name","_value","_params"]:List Str).zip [x,n,v,.ref d])):=by kernel_rfl
 rw[e]
 exact wpAny_bind (wpAny_alloc (wpAny_pure h))
noncomputable def flat:PV→Bool
 | .tup _=>false
 | .lst _=>false
 |_=>true
theorem Rep.flat{V U:List Addr}{h h':Heap}{p:PV}{v:Value}(hp:flat p=true)(r:Rep V h p v):Rep U h' p v:=by
 cases p<;>first | (cases hp;done) | (rw[Rep]at r ⊢;exact r)
theorem Je{ρ:List (Str×PV)}(h:(ρ.all fun x=>flat x.2)=true){x:Str}{p:PV}(hx:ρ.lookup x=some p):flat p=true:=
 List.all_eq_true.mp h _ (mem_of_lookup hx)
theorem St.moveV{c:Cx}{ρ:List (Str×PV)}{l:Bool}{F:List Addr}{s s':Shared}{X:Shared→Prop}{hX}(hs:(c.wr ρ).St s)(k:KpF l F s s')(hfl:(ρ.all fun x=>flat x.2)=true)(h9:∀b∈F,439≤b)(ha:Apart c.env F)(hl:∀b∈F,b∈c.V→∃o,s'.heap.get? b=some o)(x:X s'):((c.ch X hX).wr ρ).St s':=by
 have H:=hs.2.1
 refine⟨base_kpf hs.1 k h9,⟨?_,fun x pv hx hk=> ?_,H.high,fun x c hc=>let⟨n,v,o,ho,hd⟩:=H.there x c hc;⟨n,v,o,k.get (Xv n) (ha.2 x c hc) ho,hd⟩,fun b hb=> ?_,H.apart⟩,x⟩
 ·obtain⟨m,hn,hm⟩:=H.ns
  refine⟨m,JP (fun o e=>k.get H.tab ha.1 e) hn,fun x pv hx hk=> ?_⟩
  obtain⟨v,hv,hr⟩:=hm x pv hx hk
  exact⟨v,hv,hr.flat (Je hfl hx)⟩
 ·obtain⟨c,v,hc,ht,⟨o,ho,hd⟩,hr⟩:=H.cell x pv hx hk
  exact⟨c,v,hc,ht,⟨o,k.get ht (ha.2 x c hc) ho,hd⟩,hr.flat (Je hfl hx)⟩
 ·obtain⟨h1,o,e⟩:=H.vol b hb
  by_cases hF:b∈F
  ·exact⟨h1,hl b hF hb⟩
  ·exact⟨h1,o,k.get (Xv h1) hF e⟩
theorem St.moveF{c:Cx}{ρ:List (Str×PV)}{l:Bool}{F:List Addr}{s s':Shared}{X:Shared→Prop}{hX}(hs:(c.wr ρ).St s)(k:KpF l F s s')(hfl:(ρ.all fun x=>flat x.2)=true)(h9:∀b∈F,439≤b)(ha:Apart c.env F)(hl:∀b∈F,∃o,s'.heap.get? b=some o)(x:X s'):((c.ch X hX).wr ρ).St s':=St.moveV hs k hfl h9 ha (fun b hb _=>hl b hb) x
section
variable{c:Cx}
theorem ev_join1{o e:PySem.Expr}{apos pos:Pos}{x y:Str}(h:EvOk c o (.str x))(he:EvOk c e (.lst [.str y]))(hb:attributeBase o "join" c.env (eval o c.env)=eval o c.env)(hst:XV e=false)(hl:(apos.endLine==pos.line)=true)
(hx:x.length≤16)(hw:y.length≤1000000):EvOk c (.Call (.Attribute o "join" apos) [e] [] pos) (.str y):=.mk fun s hs=>by
 refine Call_method1 hb (Zs hst) hl (Xi h hs fun v s₁ r₁ k₁ st₁=> ?_)
 rw[Rep]at r₁
 obtain⟨t,rfl⟩:=r₁
 refine methodOn_join rfl (callWith_builtin rfl (evalArgs_plain (spliced_cons (Xi he st₁ fun u s₂ r₂ k₂ st₂=>spliced_nil ?_))))
 rw[Rep]at r₂
 obtain⟨a,vs,rfl,_,hp,ra⟩:=r₂
 refine join_listW hp.isList (JI (xs:=[y]) ra) hx (by simp;lia) fun t' k=>⟨?_,(k₁.trans k₂).trans (.tok _)⟩
 rw[Rep]
 exact⟨_,rfl⟩
theorem wp_for_items0{n:Str}{tgt:PySem.Expr}{body:List Stmt}{np ap ip pos:Pos}{d:Addr}{ep:Nat}{s:Shared}{Q:Flow→Shared→Prop}{E:Value→Shared→Prop}(hs:c.St s)(hn:EvOk c (.Name n np) (.val (.ref d)))(hd9:439≤d)(hd:∀s,c.St s→s.heap.get? d=some (dictOf [] ep))(hl:(ap.endLine==ip.line)=true)
(hfold:∀x,foldedSetIterable (.Call (.Attribute (.Name n np) "items" ap) [] [] ip) c.env x=pure x)(h:∀s',c.St s'→Kp c.lam s s'→Q .next s'):
 wpAny (model pw c.w) c.A (exec (.For tgt (.Call (.Attribute (.Name n np) "items" ap) [] [] ip) body [] pos) c.env) Q E s:=by
 have hm:∀s,c.St s→s.heap.DictAt (intKind pw c.w) d [] ep:=fun s hs=>⟨_,#[],hd s hs,⟨rfl,rfl,rfl⟩,rfl,(fun e he=>by simp at he),.nil,List.nodup_nil⟩
 refine wpAny_For (Call_method0 rfl hl (Xi hn hs fun v s₁ r₁ k₁ st₁=> ?_)) hfold
 rw[Rep]at r₁
 subst r₁
 have hD:=hm s₁ st₁
 have hT:s₁.TypeIs (.ref d) "dict":=⟨_,hd s₁ st₁,rfl⟩
 refine⟨"dict","dict.items",F.plainAttrs_dict,F.slot_dict_items,F.type_dict_items,hT,fun a e=>by cases e;exact⟨_,hd s₁ st₁,rfl⟩,?_⟩
 refine callWith_builtin rfl (evalArgs_nil3 ?_)
 have hne:(d==sysModules)=false:=by
  have:d≠sysModules:=fun q=>by rw[q]at hd9;exact absurd hd9 (by decide)
  simpa using this
 refine call_meetsIn F.slot_dict_items hT F.entry_dict_items (F.args_dict_items_1 _) (meets_dict_items (intKind pw c.w) d hne) ⟨⟨_,hD.dictOf⟩,?_⟩
 have k₂:Kp c.lam s₁ {s₁ with heap:=s₁.heap.push {cls:=.type "dict_items",data:=.fields #[.ref d]}}:=XZ _
 have st₂:=st₁.kp k₂
 have hD₂:=hm _ st₂
 refine wpAny_pyIter_items (knd:=intKind pw c.w) (kvs:=[]) ⟨_,Heap.get?_push_size _ rfl,rfl,rfl⟩ hD₂ ?_
 generalize hs3:({s₁ with heap:=s₁.heap.push {cls:=.type "dict_items",data:=.fields #[.ref d]}}:Shared)=s₃ at k₂ st₂ hD₂ ⊢
 have k₃:Kp c.lam s₃ {s₃ with heap:=s₃.heap.push {cls:=.type "dict_itemiterator",data:=.fields #[.none,.bool false,.ref d,.int 0 0,.int ([]:List (Int×Value)).length 0,.int ep 0,.none,.none]}}:=XZ _
 have st₃:=st₂.kp k₃
 have hI:IsItemIter (s₃.heap.push {cls:=.type "dict_itemiterator",data:=.fields #[.none,.bool false,.ref d,.int 0 0,.int ([]:List (Int×Value)).length 0,.int ep 0,.none,.none]}) s₃.heap.objs.size d 0 ([]:List (Int×Value)).length ep .none .none:=Heap.get?_push_size _ rfl
 have hD₃:=hm _ st₃
 subst hs3
 refine codeAny_forLoop_any (fun k s'=>k=0∧s'=_) (fun k s' q=> ?_) 0 ⟨rfl,rfl⟩
 obtain⟨rfl,rfl⟩:=q
 refine wpAny_pyNext_items_end (knd:=intKind pw c.w) (kvs:=[]) (i:=0) c.hh hI hD₃ rfl fun h' hx=> ?_
 have k₄:Kp c.lam s {s₁ with heap:=h'}:=by
  obtain⟨h1,t1,rfl,kk⟩:=k₁
  refine⟨h',t1,rfl,fun b o n e=>hx b o (fun q=> ?_) (Heap.get?_push_of_some _ (Heap.get?_push_of_some _ (kk b o n e)))⟩
  have:=Heap.lt_size (Heap.get?_push_of_some {cls:=.type "dict_items",data:=.fields #[.ref d]} (kk b o n e))
  rw[q]at this
  exact Nat.lt_irrefl _ this
 exact wpAny_execs_nil (h _ (hs.kp k₄) k₄)
end
noncomputable def XH(sx dx hl:Addr)(objs:List (Addr×Obj))(s:Shared):Prop:=YJ s.heap sx dx hl∧XO objs s
theorem xh_hX{l:Bool}{objs:List (Addr×Obj)}{fd:FuncData}{L sx dx hl:Addr}(h9:∀p∈objs,439≤p.1)(hne:∀p∈objs,p.1≠L)(hsx:sx≠L)(hdx:dx≠L)(hclo:fd.closure=[]):∀s₁ s',XH sx dx hl objs s₁→KpF l (L::fd.closure.map (fun x:Str×Addr=>x.2)) s₁ s'→XH sx dx hl objs s':=fun s₁ s' x k=>by
 rw[hclo]at k
 refine⟨x.1.at fun b o h9 hb e=>k.get (Xv h9) (fun m=> ?_) e,XO.kpf h9 (fun p hp m=>hne p hp (List.mem_singleton.mp m)) x.2 k⟩
 rw[List.map_nil,List.mem_singleton]at m
 rcases hb with rfl |rfl
 ·exact hsx m
 ·exact hdx m
section
variable{c:Cx}
theorem wp_appO{o:PySem.Expr}{apos pos:Pos}{e:PySem.Expr}{p:PV}{a:Addr}{its:Array Value}{n:Nat}{s:Shared}{Q E:Value→Shared→Prop}(hs:c.St s)(hb:attributeBase o "append" c.env (eval o c.env)=eval o c.env)(hx:EvOk c o (.val (.ref a)))(he:EvOk c e p)(hst:XV e=false)(hl:(apos.endLine==pos.line)=true)
(ha:Xp a=false)(hlist:s.heap.get? a=some {cls:=.type "list",data:=.seq its n})(hsz:its.size≤1000)
(h:∀v s₁ h',Rep c.V s₁.heap p v→Kp c.lam s s₁→c.St s₁→Heap.SameBut a s₁.heap h'→h'.get? a=some {cls:=.type "list",data:=.seq (its.push v) (n+1)}→Q .none {s₁ with heap:=h'}):
 wpAny (model pw c.w) c.A (eval (.Call (.Attribute o "append" apos) [e] [] pos) c.env) Q E s:=by
 refine wpAny_Call_append hb (by rw[Xt hst];rfl) hl (by rw[Xt hst];rfl) (Xi hx hs fun ov s₁ r₁ k₁ st₁=> ?_)
 rw[Rep]at r₁
 subst r₁
 have h1:=k₁.get ha hlist
 refine⟨a,its,rfl,⟨_,n,h1,rfl,rfl,?_⟩,Xi he st₁ fun v s₂ r₂ k₂ st₂=>append_at (k₂.get ha h1) (fun h' hs' hg=>h v s₂ h' r₂ (k₁.trans k₂) st₂ hs' hg) (Nat.le_trans hsz (by decide +kernel))⟩
 all_goals rfl
theorem wp_convT{sp ap kp kwp pos:Pos}{k:Nat}{e:PySem.Expr}{sx:Addr}{x:Str}{b:Bool}{s:Shared}{Q:Value→Shared→Prop}{base:Heap}{outer:List Env}(hs:c.St s)(hself:EvOk c (.Name "self" sp) (.val (.ref sx)))(he:EvOk c e (.str x))(hst:XV e=false)
(hinst:∀s,c.St s→∃ox od,InstAt s.heap sx ox 388 od∧shadowIn od "_convert_string_type"=some false)(hx:x.length≤1000)(hP:x.cps.toList.any (if b then nmP else vlP)=true)(hd:c.A.depth+1<recursionLimit)(hl:(ap.endLine==pos.line)=true)
(hlam:c.lam=false)(hfr:c.A.frames=some outer)(hfl:∀s',c.St s'→Kp c.lam s s'→base.StaysIn s'.heap∧s'.heap.FunFrames base outer):
 wpAny (model pw c.w) c.A (eval (.Call (.Attribute (.Name "self" sp) "_convert_string_type" ap) [e] [{arg:=some "name",value:=.Constant (.bool b) k kp,pos:=kwp}] pos) c.env) Q (Thrown base outer s) s:=by
 refine YN (by rfl) (by rw[Xt hst];rfl) hl ?_
 ·refine Xi hself hs fun v s₁ r₁ k₁ st₁ pl=> ?_
  rw[Rep]at r₁
  subst r₁
  obtain⟨ox,od,I,hsh⟩:=hinst s₁ st₁
  refine method_fn (f:=289) (YU st₁.1) I (by kernel_rfl) (by kernel_rfl) (by kernel_rfl) (by kernel_rfl) hsh ?_
  refine callWith_KW (h₀:=s₁.heap) (YU st₁.1) (by kernel_rfl) rfl ?_ (by rw[Xt hst];rfl) (Xt hst)
  have hall:YK c pos [e] [.str x]:=Xc he Xd hst
  refine wpAny_mono (hall.go s₁ st₁) (fun vs s₂ q=> ?_) fun _ _ x=>x.elim
  obtain⟨q,k₂⟩:=q
  have st₂:=st₁.kp k₂
  obtain⟨xv,hxv⟩:=Uv q
  show wpAny _ _ (evalAll [_]) _ _ s₂
  refine wpAny_evalAll_cons ?_
  show wpAny _ _ (do let v ←eval (.Constant (.bool b) k kp) c.env;standAt pos;pure v) _ _ _
  refine wpAny_bind (wpAny_pure (wpAny_bind (wpAny_standAt (wpAny_pure ?_))))
  refine wpAny_evalAll_nil ⟨YU st₂.1,?_⟩
  have kk:=k₁.trans k₂
  obtain⟨f1,f2⟩:=hfl s₂ st₂ kk
  rw[hlam]at kk
  exact wpAny_mono (conv_throw hx hP c.hh hd st₂.1 st₂.2.1.vol hxv hfr f1 f2) (fun _ _ x=>x.elim) fun e s' T=>T.from (lm:=false) kk
end
theorem frames_on{base:Heap}{outer:List Env}{V:List Addr}{env:Env}{ρ:List (Str×PV)}{L:Addr}{s s₁:Shared}(hkb:base.StaysIn s.heap)(hl:s.heap.FunFrames base outer)(k:Kp false s s₁)(hLn:s.heap.get? L=none)(hf:env.frame=some L)(hL:env.locals=L)(hk:env.scope.kind= .function)(F:FrSt V env ρ s₁):
 base.StaysIn s₁.heap∧s₁.heap.FunFrames base (env::outer):=by
 obtain⟨h,t,rfl,k⟩:=k
 obtain⟨m,hn,_⟩:=F.ns
 rw[hL]at hn
 have hb:base.get? L=none:=by
  cases e:base.get? L with
  |none=>rfl
  |some o=>rw[hkb L o e]at hLn;cases hLn
 exact⟨fun b o e=>k b o rfl (hkb b o e),Heap.FunFrames.cons (by rw[hk];decide) hf hn hb (hl.of_keeps fun b o e _=>⟨o,k b o rfl e,rfl⟩)⟩
theorem wp_hide2{w:World}{α:Type}{A:Around}{m:Sem α}{Q:α→Shared→Prop}{E:Value→Shared→Prop}{s:Shared}(h:∀(Q':α→Shared→Prop) (E':Value→Shared→Prop),(∀v s',Q v s'→Q' v s')→(∀v s',E v s'→E' v s')→wpAny (model pw w) A m Q' E' s):wpAny (model pw w) A m Q E s:=h Q E (fun _ _ x=>x) fun _ _ x=>x
theorem add_header_ok{w:World}{g:Nat→Obj}{x y:Str}(hx:x.length≤1000)(hy:y.length≤1000)(hPy:y.cps.toList.any vlP=false){A:Around}(hh:A.handled=none)(hdep:A.depth+2<recursionLimit){V:List Addr}{s:Shared}{sx dx hl:Addr}{its:Array Value}{n:Nat}{nv vv:Value}
(B:Base w g s)(hV:Yd V s.heap)(H:YJ s.heap sx dx hl)(h9:439≤hl)(hlV:hl∈V)(hlst:s.heap.get? hl=some {cls:=.type "list",data:=.seq its n})(hsz:its.size≤900)(hn:Rep V s.heap (.str x) nv)(hv:Rep V s.heap (.str y) vv)
{base:Heap}{outer:List Env}(hfr:A.frames=some outer)(hkb:base.StaysIn s.heap)(hfl:s.heap.FunFrames base outer):
 wpAny (model pw w) A (PySem.call (.ref 385) [.ref sx,nv,vv])
  (fun r s'=>r= .none∧x.cps.toList.any nmP=false∧KpF false [hl] s s'∧∃tv m,s'.heap.get? hl=some {cls:=.type "list",data:=.seq (its.push tv) m}∧Rep V s'.heap (.tup [.str x,.str y]) tv)
  (fun e s'=>x.cps.toList.any nmP=true∧Thrown base outer s e s') s:=by
 refine wp_hide2 fun Q E hQ hE=> ?_
 have hclo:(fdOf (o385 w.params)).closure=[]:=by kernel_rfl
 obtain⟨s₀,d,hs0,k0,h9d,hsd,dOk,hsz0⟩:∃s₀ d,(∀(M:Model) (A:Around) (E:Value→Shared→Prop) (Q:List (Str×Value)→Shared→Prop),Q ((["self","_name","_value","_params"]:List Str).zip [.ref sx,nv,vv,.ref d]) s₀→wpAny M A (bindArgs (fdOf (o385 w.params)) ⟨[.ref sx,nv,vv],[]⟩) Q E s)∧Kp false s s₀∧439≤d∧s.heap.get? d=none∧s₀.heap.get? d=some emptyDict∧d<s₀.heap.objs.size:=
  ⟨{s with heap:=s.heap.push emptyDict},s.heap.objs.size,fun M A E Q q=>bind_add M A E Q q,XZ _,B.size,Yc _,Heap.get?_push_size _ rfl,by show _<(s.heap.push emptyDict).objs.size;rw[Heap.size_push];exact Nat.lt_succ_self _⟩
 have B₀:=B.kp k0
 obtain⟨L,hL⟩:∃L,L=s₀.heap.objs.size:=⟨_,rfl⟩
 have h9L:439≤L:=by rw[hL];exact B₀.size
 have hLn:s₀.heap.get? L=none:=by rw[hL];exact Yc _
 have H₀:YJ s₀.heap sx dx hl:=H.at fun b o h _ e=>k0.get (Xv h) e
 have hl₀:=k0.get (Xv h9) hlst
 obtain⟨sl,hsx⟩:=H₀.obj
 obtain⟨hsh,ht,hnn,hdx⟩:=H₀.dict
 have nsx:=Yl hsx hLn
 have ndx:=Yl hdx hLn
 let objs:List (Addr×Obj):=[(hl,{cls:=.type "list",data:=.seq its n}),(d,emptyDict)]
 have m9:∀p∈objs,439≤p.1:=fun p hp=>by
  rcases mem2 hp with rfl |rfl
  ·exact h9
  ·exact h9d
 have mL:∀p∈objs,p.1≠L:=fun p hp=>by
  rcases mem2 hp with rfl |rfl
  ·exact Yl hl₀ hLn
  ·exact Yl dOk hLn
 have hX:=xh_hX (l:=false) (hl:=hl) (objs:=objs) (fd:=fdOf (o385 w.params)) m9 mL nsx ndx hclo
 rw[hclo]at hX
 refine KU (V:=V) (l:=false) (s₀:=s₀) (X:=XH sx dx hl objs) (a:=385) (c':=384) (o:=o385 w.params) (oc:=o384 w.params) (cvs:=Xn (o384 w.params)) (ct:=2981) (fd:=fdOf (o385 w.params)) (body:=fdB (stM 27 16)) (ns:=["self","_name","_value","_params"]) (ps:=[.val (.ref sx),.str x,.str y,.val (.ref d)]) (vs:=[.ref sx,nv,vv,.ref d]) (by kernel_rfl) rfl (by kernel_rfl) (by kernel_rfl) (by kernel_rfl) rfl (by kernel_rfl) (by kernel_rfl) (by kernel_rfl) hs0 k0 hclo (by kernel_rfl) (by kernel_rfl) (by kernel_rfl) (by kernel_rfl) (by kernel_rfl) (by kernel_rfl) (by kernel_rfl) hh (by lia) B (hV.kp k0) (Xl Xy (Xl (hn.kp k0) (Xl (hv.kp k0) (Xl Xy XW)))) (by rw[←hL];exact hX) ⟨H₀,Yi hl₀ (Yi dOk KY)⟩ ?_
 rw[←hL]
 intro s₁ hX' k₁ st
 let e₁:Env:=callEnv (fdOf (o385 w.params)) L 385
 let A₁:Around:=A.deeper e₁
 let c:Cx:=mkC w g A (fdOf (o385 w.params)) L 385 false V (XH sx dx hl objs) hX' hh (by kernel_rfl) (by kernel_rfl) (by kernel_rfl)
 let ρ₁:List (Str×PV):=[("_params",.val (.ref d)),("_value",.str y),("_name",.str x),("self",.val (.ref sx))]
 have st:(c.wr ρ₁).St s₁:=st
 have go:=Xx st
 refine go _ _ _ ?_
 have hA:(A₁).frames=some (e₁::outer):=Around.frames_deeper hfr
 have hbody:fdB (stM 27 16)=fdB (stM 27 16):=rfl
 conv at hbody=>rhs;whnf
 rw[hbody]
 refine Ja (ps:=[]) st (YS Xd (by decide)) (.inl rfl) rfl (nocells (by kernel_rfl)) fun P vs s₂ s₃ hP9 hPn hPg hPr k₂ st₃ k₃=> ?_
 obtain rfl:=Yh hPr
 have hPn0:s₀.heap.get? P=none:=Jy k₁ hP9 hPn
 have hPL:P≠L:=fun q=>by
  obtain⟨m,⟨o,_,_,ho,_⟩,_⟩:=st.2.1.ns
  have ho':s₁.heap.get? L=some o:=ho
  rw[q,ho']at hPn;cases hPn
 have nP:∀p∈objs,p.1≠P:=fun p hp=>by
  rcases mem2 hp with rfl |rfl
  ·exact Yl hl₀ hPn0
  ·exact Yl dOk hPn0
 have mk:∀oP:Obj,∀s₁ s',XH sx dx hl ((P,oP)::objs) s₁→KpF false (L::(fdOf (o385 w.params)).closure.map (fun x:Str×Addr=>x.2)) s₁ s'→XH sx dx hl ((P,oP)::objs) s':=fun oP=>xh_hX (fun p hp=>by
  rcases Xz.mp hp with rfl |q
  ·exact hP9
  ·exact m9 p q) (fun p hp=>by
  rcases Xz.mp hp with rfl |q
  ·exact hPL
  ·exact mL p q) nsx ndx hclo
 let ρ₃:List (Str×PV):=("parts",.val (.ref P))::ρ₁
 let X₄:Shared→Prop:=XH sx dx hl ((P,{cls:=.type "list",data:=.seq #[] 0})::objs)
 let c₄:Cx:=c.ch X₄ (mk _)
 have st₄:(c₄.wr ρ₃).St s₃:=St.look (X:=X₄) (hX:=mk _) st₃ ⟨st₃.2.2.1,Yi hPg st₃.2.2.2⟩
 have to₄:=Xx st₄
 refine to₄ _ _ _ ?_
 have inst:∀{objs:List (Addr×Obj)} (s':Shared),XH sx dx hl objs s'→∃ox od,InstAt s'.heap sx ox 388 od∧shadowIn od "_convert_string_type"=some false:=fun s' x'=>by
  obtain⟨ox,od,I,_,h⟩:=x'.1.inst
  exact⟨ox,some od,I,h⟩
 refine Ye (b:=true) st₄ (Xk (Xj (p:=.str y) (q:=.none) (Xa rfl rfl rfl rfl) YI (YQ rfl) rfl) rfl) fun s₅ st₅ k₅=> ?_
 refine Ji st₅ (.str y) (VA (sx:=sx) (b:=false) (Xa rfl rfl rfl rfl) (Xa rfl rfl rfl rfl) rfl (fun s' st'=>inst s' st'.2.2) hy hPy hdep rfl) (.inl rfl) rfl fun s₆ st₆ k₆=> ?_
 let ρ₆:List (Str×PV):=("_value",.str y)::ρ₃
 have st₆:(c₄.wr ρ₆).St s₆:=st₆
 have go₆:=Xx st₆
 refine go₆ _ _ _ ?_
 have hP₆:s₆.heap.get? P=some {cls:=.type "list",data:=.seq #[] 0}:=st₆.2.2.2 _ (List.mem_cons_self ..)
 refine Xq (wpAny_Expr_any (Jl st₆ (a:=P) (p:=.str y) (Xa rfl rfl rfl rfl) (Xa rfl rfl rfl rfl) rfl rfl (Xv hP9) hP₆ (by repeat constructor) fun v s₇ h' r₇ k₇ st₇ hsb hg=>⟨rfl,wpAny_execs_nil ?_⟩))
 have k₈:KpF false [P] s₇ {s₇ with heap:=h'}:=.same hsb
 let X₈:Shared→Prop:=XH sx dx hl ((P,{cls:=.type "list",data:=.seq (#[].push v) 1})::objs)
 let c₈:Cx:=c₄.ch X₈ (mk _)
 have st₈:(c₈.wr ρ₆).St {s₇ with heap:=h'}:=St.moveF (c:=c₄) (X:=X₈) (hX:=mk _) st₇ k₈ (by rfl) (fun b hb=>by rw[List.mem_singleton]at hb;rw[hb];exact hP9) (Ks hclo (by rw[List.mem_singleton];exact fun q=>hPL q.symm)) (fun b hb=>by rw[List.mem_singleton]at hb;rw[hb];exact⟨_,hg⟩)
  ⟨st₇.2.2.1.at fun b o hb9 hb e=>hsb.extBut b o (fun q=>by
    rcases hb with rfl |rfl
    ·exact Yl hsx hPn0 q
    ·exact Yl hdx hPn0 q) e,Yi hg fun p hp=>hsb.extBut _ _ (nP p hp) (st₇.2.2.2 p (List.mem_cons_of_mem _ hp))⟩
 have to₈:=Xx st₈
 refine to₈ _ _ _ ?_
 refine Xq (wp_for_items0 (d:=d) (ep:=0) st₈ (Xa rfl rfl rfl rfl) h9d (fun s' st'=>st'.2.2.2 (d,emptyDict) (.tail _ (.tail _ (.head _)))) rfl (fun _=>rfl) fun s₉ st₉ k₉=>⟨rfl,?_⟩)
 have sub:∀{a b:Shared},KpF false (e₁.locals::e₁.cells.map (·.2)) a b→KpF false [L,P] a b:=fun k=>Yt hclo (List.mem_cons_self ..) k
 have kk:KpF false [L,P] s s₉:=(((((((((KpF.of k0).trans (.of k₁)).trans (.of k₂)).trans (sub k₃)).trans (.of k₅)).trans (sub k₆)).trans (.of k₇)).trans (k₈.sub fun b hb=>List.mem_cons_of_mem _ hb)).trans (.of k₉))
 have fresh:∀b∈[L,P],s.heap.get? b=none:=fun b hb=>by
  rcases mem2 hb with rfl |rfl
  ·exact Jy k0 h9L hLn
  ·exact Jy k0 hP9 hPn0
 have kk':Kp false s s₉:=(kk.drop (G:=[]) fun b hb _=>fresh b hb).kp
 have hl₉:s₉.heap.get? hl=some {cls:=.type "list",data:=.seq its n}:=st₉.2.2.2 (hl,_) (.tail _ (.head _))
 have hPV:P∉V:=fun m=>by
  obtain⟨_,o,e⟩:=hV P m
  rw[fresh P (.tail _ (.head _))]at e;cases e
 cases hbad:x.cps.toList.any nmP with
 |false=>
  refine Xq (wpAny_Expr_any (wp_appO st₉ (a:=hl) (p:=.tup [.str x,.str y]) rfl (KT (sx:=sx) (C:=388) (K:=KHd w.params) (Xa rfl rfl rfl rfl) (fun s' st'=>YU st'.1) (fun s' st'=> ?_) (by kernel_rfl) (by kernel_rfl) (by kernel_rfl)) (Yp (Xc (VA (sx:=sx) (b:=true) (Xa rfl rfl rfl rfl) (Xa rfl rfl rfl rfl) rfl (fun s' st'=>inst s' st'.2.2) hx hbad hdep rfl) (Xc (ev_join1 (x:=Str.ofString "; ") (y:=y) XK (YB (Xa rfl rfl rfl rfl) fun s' st'=> ?_) rfl rfl rfl (by decide +kernel) (by lia)) Xd rfl) rfl) (show 2≤sizeLine by decide +kernel)) rfl rfl (Xv h9) hl₉ (by lia) fun tv s₁₀ h₁₀ r₁₀ k₁₀ st₁₀ hsb₁₀ hg₁₀=>⟨rfl,wpAny_execs_nil ?_⟩))
  ·obtain⟨ox,od,I,h,_⟩:=st'.2.2.1.inst
   exact⟨ox,od,_,I,h,rfl,Xy⟩
  ·rw[Rep]
   refine⟨P,#[v],rfl,Yx (Xv hP9) hPV,⟨1,st'.2.2.2 (P,_) (.head _)⟩,?_⟩
   rw[Rep]at r₇
   exact Xl (by rw[Rep];exact r₇) XW
  ·have k₁₁:KpF false [hl] s₁₀ {s₁₀ with heap:=h₁₀}:=.same hsb₁₀
   refine hQ _ _ ⟨rfl,hbad,((KpF.of kk').trans (.of k₁₀)).trans k₁₁,tv,_,hg₁₀,?_⟩
   exact r₁₀.mono fun b c' z m hb e=>hsb₁₀.extBut b _ (fun q=>XM hb (by rw[q];exact hlV)) e
 |true=>
  refine Xq (wpAny_Expr_any (wpAny_Call_append rfl rfl rfl rfl (Xi (KT (sx:=sx) (C:=388) (K:=KHd w.params) (p:=.val (.ref hl)) (Xa rfl rfl rfl rfl) (fun s' st'=>YU st'.1) (fun s' st'=> ?_) (by kernel_rfl) (by kernel_rfl) (by kernel_rfl)) st₉ fun ov s₁₀ r₁₀ k₁₀ st₁₀=> ?_)))
  ·obtain⟨ox,od,I,h,_⟩:=st'.2.2.1.inst
   exact⟨ox,od,_,I,h,rfl,Xy⟩
  ·rw[Rep]at r₁₀
   subst r₁₀
   refine⟨hl,its,rfl,⟨_,n,k₁₀.get (Xv h9) hl₉,rfl,rfl,rfl⟩,wpAny_Tuple_spliced (spliced_cons ?_)⟩
   have kk₁₀:Kp false s s₁₀:=kk'.trans k₁₀
   have f1:∀{ρ:List (Str×PV)} {s':Shared},FrSt V e₁ ρ s'→Kp false s₁₀ s'→base.StaysIn s'.heap∧s'.heap.FunFrames base (e₁::outer):=fun F k=>frames_on hkb hfl (kk₁₀.trans k) (fresh L (List.mem_cons_self ..)) rfl rfl (by kernel_rfl) F
   refine wpAny_mono (wp_convT (sx:=sx) (x:=x) (b:=true) (base:=base) (outer:=e₁::outer) st₁₀ (Xa rfl rfl rfl rfl) (Xa rfl rfl rfl rfl) rfl (fun s' st'=>inst s' st'.2.2) hx hbad hdep rfl rfl hA fun s' st' k=>f1 st'.2.1 k) (fun _ _ x=>x) fun e s' T=> ?_
   exact Thrown.leave hA rfl T fun s'' T'=>hE _ _ ⟨hbad,T'.from (lm:=false) kk₁₀⟩
theorem sl_all{α:Type}(l:List α):sl l none none=l:=by unfold sl;simp
theorem items_ok{w:World}{g:Nat→Obj}{ps:List PV}(hps:ps.length≤900){A:Around}(hh:A.handled=none)(hdep:A.depth+1<recursionLimit){V:List Addr}{s:Shared}{sx dx hl:Addr}(B:Base w g s)(hV:Yd V s.heap)(H:YJ s.heap sx dx hl)(hr:Rep V s.heap (.lst ps) (.ref hl)):
 wpAny (model pw w) A (PySem.call (.ref 352) [.ref sx]) (fun v s'=>Rep V s'.heap (.lst ps) v∧Kp false s s') (fun _ _=>False) s:=by
 have hclo:(fdOf (o352 w.params)).closure=[]:=by kernel_rfl
 obtain⟨L,hL⟩:∃L,L=s.heap.objs.size:=⟨_,rfl⟩
 have hLn:s.heap.get? L=none:=by rw[hL];exact Yc _
 obtain⟨sl',hsx⟩:=H.obj
 obtain⟨hsh,ht,hnn,hdx⟩:=H.dict
 let X:Shared→Prop:=fun s'=>YJ s'.heap sx dx hl∧Rep (L::V) s'.heap (.lst ps) (.ref hl)
 have hX:∀s₁ s',X s₁→KpF false [L] s₁ s'→X s':=fun s₁ s' x k=>⟨x.1.at fun b o h9 hb e=>k.get (Xv h9) (fun m=>by
  rw[List.mem_singleton]at m
  rcases hb with rfl |rfl
  ·exact Yl hsx hLn m
  ·exact Yl hdx hLn m) e,x.2.mono fun b d x n hb e=>k.get (Xu hb) (fun m=>by
   rw[List.mem_singleton]at m
   exact XM hb (by rw[m];exact List.mem_cons_self ..)) e⟩
 refine KU (V:=V) (l:=false) (s₀:=s) (X:=X) (a:=352) (c':=351) (o:=o352 w.params) (oc:=o351 w.params) (cvs:=Xn (o351 w.params)) (ct:=2945) (fd:=fdOf (o352 w.params)) (body:=fdB (stM 27 11)) (ns:=["self"]) (ps:=[.val (.ref sx)]) (vs:=[.ref sx]) (by kernel_rfl) rfl (by kernel_rfl) (by kernel_rfl) (by kernel_rfl) rfl (by kernel_rfl) (by kernel_rfl) (by kernel_rfl) (fun M A E Q q=>by
  have e:bindArgs (fdOf (o352 w.params)) ⟨[.ref sx],[]⟩=pure ((["self"]:List Str).zip [.ref sx]):=by kernel_rfl
  rw[e];exact wpAny_pure q) (.refl s) hclo (by kernel_rfl) (by kernel_rfl) (by kernel_rfl) (by kernel_rfl) (by kernel_rfl) (by kernel_rfl) (by kernel_rfl) hh (by lia) B hV (Xl Xy XW) (by rw[←hL];exact hX) ⟨H,hr.sub fun b d x n hb e=>Yx (Xu hb) fun m=>by
   rcases List.mem_cons.mp m with q |q
   ·rw[q,hLn]at e;cases e
   ·exact XM hb q⟩ ?_
 rw[←hL]
 intro s₁ hX' k₁ st
 refine wpAny_mono (XU.go (o:=.ret (.lst ps)) ?_ s₁ st) (fun f s' q=> ?_) fun _ _ x=>x.elim
 ·conv=>arg 2;whnf
  refine Ym (Xh ?_)
  refine YP (p:=.lst (sl ps none none)) ?_ (by rw[sl_all])
  refine YZ (q:=.lst ps) (KT (sx:=sx) (C:=388) (K:=KHd w.params) (Xa rfl rfl rfl rfl) (fun s₂ st₂=>YU st₂.1) (fun s₂ st₂=> ?_) (by kernel_rfl) (by kernel_rfl) (by kernel_rfl)) YR YR (Jm (Nat.le_trans hps (by decide +kernel)))
  obtain⟨ox,od,I,h,_⟩:=st₂.2.2.1.inst
  exact⟨ox,od,_,I,h,rfl,st₂.2.2.2.sub fun b d x n hb e=>Yx (Xu hb) fun m=>XM hb (List.mem_cons_of_mem _ m)⟩
 ·obtain⟨⟨v,rfl,hv⟩,k'⟩:=q
  refine⟨hv,?_⟩
  have k2:KpF false [L] s s':=(KpF.of k₁).trans (Yt hclo (List.mem_cons_self ..) k')
  exact(k2.drop (G:=[]) fun b hb _=>by rw[List.mem_singleton]at hb;rw[hb];exact hLn).kp
theorem getall_throw{w:World}{g:Nat→Obj}{nm:Str}(hL:(Txt.lower nm).length≤1000)(hP:(Txt.lower nm).cps.toList.any nmP=true){A:Around}(hh:A.handled=none)(hdep:A.depth+2<recursionLimit){V:List Addr}{s:Shared}{sx dx hl:Addr}{nv:Value}
(B:Base w g s)(hV:Yd V s.heap)(hx:YJ s.heap sx dx hl)(hn:Rep V s.heap (.str nm) nv){base:Heap}{outer:List Env}(hfr:A.frames=some outer)(hkb:base.StaysIn s.heap)(hfl:s.heap.FunFrames base outer):
 wpAny (model pw w) A (PySem.call (.ref 327) [.ref sx,nv]) (fun _ _=>False) (Thrown base outer s) s:=by
 let F:List Addr:=s.heap.objs.size::(cellsFrom (s.heap.objs.size+1) (fdOf (o327 w.params)).scope.names []).map (fun x:Str×Addr=>x.2)
 have hab:∀b∈F,s.heap.objs.size≤b:=fun b hb=>by
  rcases List.mem_cons.mp hb with q |q
  ·exact Nat.le_of_eq q.symm
  ·have e:(cellsFrom (s.heap.objs.size+1) (fdOf (o327 w.params)).scope.names []).map (fun x:Str×Addr=>x.2)=[s.heap.objs.size+1]:=by kernel_rfl
   rw[e,List.mem_singleton]at q
   rw[q];exact Nat.le_succ _
 have notF:∀b o,s.heap.get? b=some o→b∉F:=fun b o e m=>absurd (Heap.lt_size e) (Nat.not_lt.mpr (hab b m))
 have hsx:sx∉F:=by obtain⟨sl,e⟩:=hx.obj;exact notF _ _ e
 have hdx:dx∉F:=by obtain⟨a,t,n,e⟩:=hx.dict;exact notF _ _ e
 have hX:∀s₁ s':Shared,YJ s₁.heap sx dx hl→KpF false F s₁ s'→YJ s'.heap sx dx hl:=fun s₁ s' x k=>x.at fun b o h9 hb e=>k.get (Xv h9) (by rcases hb with rfl |rfl;exact hsx;exact hdx) e
 refine ZF (l:=false) (ρb:=[("self",.val (.ref sx)),("name",.str nm)]) (X:=fun s'=>YJ s'.heap sx dx hl) (fd:=fdOf (o327 w.params)) (body:=fdB (stM 27 7)) (o:=o327 w.params) (binds:=[("self",.ref sx),("name",nv)]) hh (by lia) B hV (B.1 327 _ rfl (by kernel_rfl)) (by kernel_rfl)
  ⟨326,o326 w.params,Xn (o326 w.params),2916,by kernel_rfl,B.1 326 _ rfl (by kernel_rfl),by kernel_rfl,by kernel_rfl⟩ (by kernel_rfl) (by kernel_rfl) (by kernel_rfl) ?_ (by kernel_rfl) (by kernel_rfl) (by kernel_rfl) (by kernel_rfl) (by kernel_rfl) ?_ hX hx (fun s₁ k hcab st=> ?_)
 ·intro y hy
  rcases mem2 hy with rfl |rfl
  ·exact .inl (by kernel_rfl)
  ·exact .inr ⟨by kernel_rfl,by kernel_rfl⟩
 ·intro y q hy
  rcases lk2 hy with⟨rfl,rfl⟩ | ⟨rfl,rfl⟩
  ·exact⟨.ref sx,by kernel_rfl,by rw[Rep]⟩
  ·exact⟨nv,by kernel_rfl,hn⟩
 ·have hA:(A.deeper (callEnvC (fdOf (o327 w.params)) s.heap.objs.size 327)).frames=some (callEnvC (fdOf (o327 w.params)) s.heap.objs.size 327::outer):=Around.frames_deeper hfr
  have hbody:fdB (stM 27 7)=fdB (stM 27 7):=rfl
  conv at hbody=>rhs;whnf
  rw[hbody]
  refine wpAny_execs_cons ?_
  rw[exec_Assign_Name _ _ _ _ _ (by rfl)]
  refine wpAny_bind (wpAny_standAt (wpAny_bind ?_))
  have f1:∀{ρ:List (Str×PV)} {s':Shared},FrSt V (callEnvC (fdOf (o327 w.params)) s.heap.objs.size 327) ρ s'→Kp false s₁ s'→base.StaysIn s'.heap∧s'.heap.FunFrames base (callEnvC (fdOf (o327 w.params)) s.heap.objs.size 327::outer):=fun F k'=>frames_on hkb hfl (k.trans k') (Yc _) rfl rfl (by kernel_rfl) F
  refine wpAny_mono (wp_convT (Q:=fun _ _=>False) (sx:=sx) (x:=Txt.lower nm) (b:=true) (base:=base) (outer:=callEnvC (fdOf (o327 w.params)) s.heap.objs.size 327::outer) st (Xa rfl rfl rfl rfl) (KQ (x:=nm) (Xa rfl rfl rfl rfl) rfl rfl (Vq hL)) rfl (fun s' st'=> ?_) hL hP (by show A.depth+1+1<recursionLimit;lia) rfl rfl hA fun s' st' k=>f1 st'.2.1 k) (fun _ _ x=>x.elim) fun e s' T=> ?_
  ·obtain⟨ox,od,I,_,h⟩:=YJ.inst st'.2.2
   exact⟨ox,some od,I,h⟩
  ·exact Thrown.leave hA rfl T fun s'' T'=>T'.from (lm:=false) k
section
variable{c:Cx}
theorem ZB{n attr:Str}{np ap pos:Pos}{x C dx:Addr}{ox:Obj}{es:List DictEntry}{m m':Nat}{K:Frag}{s:Shared}{Q:Flow→Shared→Prop}{E:Value→Shared→Prop}{e:PySem.Expr}(_:c.St s)(hn:EvOk c (.Name n np) (.val (.ref x)))(hK:∀s,c.St s→K.In s.heap)(I:∀s,c.St s→InstAt s.heap x ox C (some (dictOf es m)))(hd:ox.dict=some dx)
(hsw:swapsWith e (some (.Attribute (.Name n np) attr ap)) pos.line c.env=pure false)
(hset:findIn K (.ref C) "__setattr__"=some (some (.builtin "object.__setattr__")))(hp:plainOver K C=true)(ht:takerIn K C attr=some none)(hh:hasDictIn K C=true)(hl:(getL attr es).isSome=true)(hm:putN attr es m=m')(hz:∀t v,(putL attr (PyData.keyHash c.w.params attr) (.str attr t) v es).length≤1000)
(hv:wpAny (model pw c.w) c.A (eval e c.env) (fun v s₁=>c.St s₁∧∀t s₂ h',Kp c.lam s₁ s₂→c.St s₂→Heap.SameBut dx s₂.heap h'→h'.get? dx=some (dictOf (putL attr (PyData.keyHash c.w.params attr) (.str attr t) v es) m')→Q .next {s₂ with heap:=h',toks:=s₂.toks+2}) E s):
 wpAny (model pw c.w) c.A (exec (.Assign [.Attribute (.Name n np) attr ap] e pos) c.env) Q E s:=by
 refine plainObj_wpAny_Assign_Attribute (wpAny_mono hv (fun v s₁ q=> ?_) fun _ _ x=>x) hsw
 refine Xi hn q.1 fun v₂ s₂ r₂ k₂ st₂=> ?_
 rw[Rep]at r₂
 subst r₂
 exact UN (hK s₂ st₂) (I s₂ st₂) hd hset hp ht hh hl (by rw[hm]) (hz _ _) fun h' hs' hg=>q.2 _ s₂ h' k₂ st₂ hs' hg
end
theorem Vf{d:Addr}{o o':Obj}{r:List (Addr×Obj)}{s:Shared}{h':Heap}{t:Nat}(x:XO ((d,o)::r) s)(hs:Heap.SameBut d s.heap h')(hg:h'.get? d=some o')(hn:∀p∈r,p.1≠d):XO ((d,o')::r) {s with heap:=h',toks:=t}:=Yi hg fun p hp=>hs.extBut _ _ (hn p hp) (x p (List.mem_cons_of_mem _ hp))
noncomputable def KLx(P:Params):Frag:=[(240,o240 P),(239,o239 P),(216,o216 P),(223,o223 P),(230,o230 P)]
theorem Yz{w:World}{g:Nat→Obj}{s:Shared}(B:Base w g s):(KLx w.params).In s.heap:=XD (w:=w) (g:=g) B fun p hp=>by
 rcases mem5 hp with rfl |rfl |rfl |rfl |rfl<;>exact⟨rfl,by kernel_rfl⟩
noncomputable def wsS:Str:=Str.ofString "\n\t\r "
noncomputable def Uy(h1 h2 h3 h4:Int)(t1 t2 t3 t4 t5 t6:Tok)(n:Int)(fv pv:Value):List DictEntry:=[⟨h1,.str "lineno" t1,.int n t5⟩,⟨h2,.str "instream" t2,fv⟩,⟨h3,.str "whitespace" t3,.str wsS t6⟩,⟨h4,.str "pushback" t4,pv⟩]
inductive NewLex(fv:Value)(s:Shared)(v:Value)(s':Shared):Prop
 |mk (x dx pb:Addr) (h1 h2 h3 h4:Int) (t1 t2 t3 t4 t5 t6:Tok) (e:v= .ref x) (hx:s'.heap.get? x=some (instObj 240 dx)) (hdx:s'.heap.get? dx=some (dictOf (Uy h1 h2 h3 h4 t1 t2 t3 t4 t5 t6 1 fv (.ref pb)) 4)) (hpb:s'.heap.get? pb=some {cls:=.type "list",data:=.seq #[] 0}) (x9:439≤x) (dx9:439≤dx) (pb9:439≤pb) (xn:s.heap.get? x=none) (dxn:s.heap.get? dx=none) (pbn:s.heap.get? pb=none) (k:Kp false s s')
theorem ZK{w:World}{α:Type}{A:Around}{m:Sem α}{Q:α→Shared→Prop}{E:Value→Shared→Prop}{s:Shared}(h:∀Q':α→Shared→Prop,(∀v s',Q v s'→Q' v s')→wpAny (model pw w) A m Q' E s):wpAny (model pw w) A m Q E s:=h Q fun _ _ x=>x
theorem make_lex{w:World}{g:Nat→Obj}{A:Around}(hh:A.handled=none)(hdep:A.depth+2<recursionLimit){s:Shared}(B:Base w g s){fv:Value}:
 wpAny (model pw w) A (PySem.call (.ref 240) [fv]) (NewLex fv s) (fun _ _=>False) s:=by
 refine ZK fun Q hQ=> ?_
 refine wp_make (fI:=216) (Yz B) (by kernel_rfl) (by kernel_rfl) (by kernel_rfl) fun x dx s₁ k₁ hdx hxd hx hd=> ?_
 have B₁:=B.kp k₁
 have h9d:439≤dx:=Nat.le_trans B.size hdx
 have h9x:439≤x:=Nat.le_trans h9d (Nat.le_of_lt hxd)
 have hxd':x≠dx:=fun q=>Nat.lt_irrefl _ (q▸hxd)
 have hclo:(fdOf (o216 w.params)).closure=[]:=by kernel_rfl
 have hLx:x≠s₁.heap.objs.size:=Nat.ne_of_lt (Heap.lt_size hx)
 have hLd:dx≠s₁.heap.objs.size:=Nat.ne_of_lt (Heap.lt_size hd)
 have mk:∀od sa s',XO [(dx,od),(x,instObj 240 dx)] sa→KpF false (s₁.heap.objs.size::(fdOf (o216 w.params)).closure.map (fun x:Str×Addr=>x.2)) sa s'→XO [(dx,od),(x,instObj 240 dx)] s':=fun od=>Wf (a:=216) (objs:=[(dx,od),(x,instObj 240 dx)]) (fun p hp=>by
  rcases mem2 hp with rfl |rfl
  ·exact h9d
  ·exact h9x) (fun p hp=>by
  rcases mem2 hp with rfl |rfl
  ·exact hLd
  ·exact hLx) hclo
 have hdp:(A.under (Code.builtin "type.__call__" ⟨[Value.ref 240,fv],[]⟩)).depth<recursionLimit:=by
  have e:(Code.builtin "type.__call__" ⟨[Value.ref 240,fv],[]⟩).weight=1:=by kernel_rfl
  show A.depth+_<_
  rw[e];lia
 refine KB (l:=false) (V:=[]) (ρb:=((["self","fp"]:List Str).zip [PV.val (.ref x),.val fv]).reverse) (ρf:=[]) (X:=XO [(dx,emptyDict),(x,instObj 240 dx)]) (fd:=fdOf (o216 w.params)) (body:=fdB (stM 21 0)) (o:=o216 w.params) (binds:=[("self",.ref x),("fp",fv)]) hh hdp B₁ (fun b hb=>by cases hb) (B₁.1 216 _ rfl (by kernel_rfl)) (by kernel_rfl)
  ⟨215,o215 w.params,Xn (o215 w.params),2694,by kernel_rfl,B₁.1 215 _ rfl (by kernel_rfl),by kernel_rfl,by kernel_rfl⟩ (by kernel_rfl) (kp_binds (K:=[]) (XD B₁ fun p hp=>by cases hp) (fun S=>by kernel_rfl)) (by kernel_rfl) (UT (ns:=["self","fp"]) (vs:=[.ref x,fv]) (by kernel_rfl)) (by kernel_rfl) (by kernel_rfl) (by kernel_rfl) (by kernel_rfl) (by kernel_rfl) ?_ (fun x q hx=>by simp at hx) (fun x c hx=>by rw[hclo]at hx;simp at hx) (fun x y c hx=>by rw[hclo]at hx;simp at hx) (mk _) (Yi hd (Yi hx KY)) ?_
 ·intro y p hxp
  exact XN (x:=y) (q:=p) (ns:=["self","fp"]) (Xl Xy (Xl Xy XW)) (acc:=[]) (acc':=[]) (fun y q hq=>by simp at hq) y p hxp
 intro s₂ k₂ htk st
 let e:Env:=callEnv (fdOf (o216 w.params)) s₁.heap.objs.size 216
 let i:List (Addr×Obj):=[(x,instObj 240 dx)]
 let c:Cx:={w:=w,g:=g,A:=(A.under (Code.builtin "type.__call__" ⟨[Value.ref 240,fv],[]⟩)).deeper e,env:=e,ρ:=[],lam:=false,V:=[],X:=XO ((dx,emptyDict)::i),hX:=mk _,hh:=hh,kind:=by kernel_rfl,globs:=by kernel_rfl,blts:=by kernel_rfl,ground:=Xs w g}
 let ρ:List (Str×PV):=[("fp",.val fv),("self",.val (.ref x))]
 have st:(c.wr ρ).St s₂:=st
 have go:=Xx st
 refine go _ _ _ ?_
 have hbody:fdB (stM 21 0)=fdB (stM 21 0):=rfl
 conv at hbody=>rhs;whnf
 rw[hbody]
 have only:∀p∈[(x,instObj 240 dx)],p.1≠dx:=fun p hp=>by rw[List.mem_singleton]at hp;subst hp;exact hxd'
 have ap:Apart (callEnv (fdOf (o216 w.params)) s₁.heap.objs.size 216) [dx]:=Ks hclo (by rw[List.mem_singleton];exact fun q=>hLd q.symm)
 refine Xq (ZB (x:=x) (C:=240) (dx:=dx) (ox:=instObj 240 dx) (es:=[]) (m:=0) (m':=1) (K:=KLx w.params) st (Xa rfl rfl rfl rfl) (fun s' st'=>Yz st'.1) (fun s' st'=>⟨st'.2.2 (x,_) (.tail _ (.head _)),rfl,rfl,st'.2.2 (dx,_) (.head _)⟩) rfl (by rfl) (by kernel_rfl) (by kernel_rfl) (by kernel_rfl) (by kernel_rfl) (by kernel_rfl) rfl (fun t v=>Nat.le_of_ble_eq_true rfl) (Xi (pv:=.int 1) Xe st fun v₁ s₃ r₃ k₃ st₃=>⟨st₃,fun t₁ s₄ h₄ k₄ st₄ hsb₄ hg₄=>⟨rfl,?_⟩⟩))
 let S₄:Shared:={s₄ with heap:=h₄,toks:=s₄.toks+2}
 let es₁:List DictEntry:=[⟨PyData.keyHash w.params "lineno",.str "lineno" t₁,v₁⟩]
 let c₅:Cx:=c.ch (XO ((dx,dictOf es₁ 1)::i)) (mk _)
 have st₅:(c₅.wr ρ).St S₄:=St.moveF (X:=XO ((dx,dictOf es₁ 1)::i)) (hX:=mk _) st₄ (KpF.same (l:=false) (t:=s₄.toks+2) hsb₄) (by rfl) (fun b hb=>by rw[List.mem_singleton]at hb;rw[hb];exact h9d) ap (fun b hb=>by rw[List.mem_singleton]at hb;rw[hb];exact⟨_,hg₄⟩) (Vf st₄.2.2 hsb₄ hg₄ only)
 have to₅:=Xx st₅
 refine to₅ _ _ _ ?_
 refine Xq (ZB (x:=x) (C:=240) (dx:=dx) (ox:=instObj 240 dx) (es:=es₁) (m:=1) (m':=2) (K:=KLx w.params) st₅ (Xa rfl rfl rfl rfl) (fun s' st'=>Yz st'.1) (fun s' st'=>⟨st'.2.2 (x,_) (.tail _ (.head _)),rfl,rfl,st'.2.2 (dx,_) (.head _)⟩) rfl (by rfl) (by kernel_rfl) (by kernel_rfl) (by kernel_rfl) (by kernel_rfl) (by kernel_rfl) (by kernel_rfl) (fun t v=>Nat.le_of_ble_eq_true rfl) (Xi (pv:=.val fv) (Xa rfl rfl rfl rfl) st₅ fun v₂ s₆ r₆ k₆ st₆=>⟨st₆,fun t₂ s₇ h₇ k₇ st₇ hsb₇ hg₇=>⟨rfl,?_⟩⟩))
 rw[Rep]at r₆
 subst r₆
 rw[Rep]at r₃
 obtain⟨t₅,rfl⟩:=r₃
 let es₂:List DictEntry:=[⟨PyData.keyHash w.params "lineno",.str "lineno" t₁,.int 1 t₅⟩,⟨PyData.keyHash w.params "instream",.str "instream" t₂,v₂⟩]
 have hz3:∀t v,(putL "whitespace" (PyData.keyHash w.params "whitespace") (.str "whitespace" t) v es₂).length≤1000:=fun t v=>Nat.le_of_ble_eq_true rfl
 let S₇:Shared:={s₇ with heap:=h₇,toks:=s₇.toks+2}
 let c₈:Cx:=c₅.ch (XO ((dx,dictOf es₂ 2)::i)) (mk _)
 have st₈:(c₈.wr ρ).St S₇:=St.moveF (X:=XO ((dx,dictOf es₂ 2)::i)) (hX:=mk _) st₇ (KpF.same (l:=false) (t:=s₇.toks+2) hsb₇) (by rfl) (fun b hb=>by rw[List.mem_singleton]at hb;rw[hb];exact h9d) ap (fun b hb=>by rw[List.mem_singleton]at hb;rw[hb];exact⟨_,hg₇⟩) (Vf st₇.2.2 hsb₇ hg₇ only)
 have to₈:=Xx st₈
 refine to₈ _ _ _ ?_
 refine Xq (ZB (x:=x) (C:=240) (dx:=dx) (ox:=instObj 240 dx) (es:=es₂) (m:=2) (m':=3) (K:=KLx w.params) st₈ (Xa rfl rfl rfl rfl) (fun s' st'=>Yz st'.1) (fun s' st'=>⟨st'.2.2 (x,_) (.tail _ (.head _)),rfl,rfl,st'.2.2 (dx,_) (.head _)⟩) rfl (by rfl) (by kernel_rfl) (by kernel_rfl) (by kernel_rfl) (by kernel_rfl) (by kernel_rfl) (by kernel_rfl) hz3 (Xi (pv:=.str wsS) XK st₈ fun v₃ s₉ r₉ k₉ st₉=>⟨st₉,fun t₃ s₁₀ h₁₀ k₁₀ st₁₀ hsb₁₀ hg₁₀=>⟨rfl,?_⟩⟩))
 rw[Rep]at r₉
 obtain⟨t₆,rfl⟩:=r₉
 let S₁₀:Shared:={s₁₀ with heap:=h₁₀,toks:=s₁₀.toks+2}
 let es₃:List DictEntry:=[⟨PyData.keyHash w.params "lineno",.str "lineno" t₁,.int 1 t₅⟩,⟨PyData.keyHash w.params "instream",.str "instream" t₂,v₂⟩,⟨PyData.keyHash w.params "whitespace",.str "whitespace" t₃,.str wsS t₆⟩]
 let c₁₁:Cx:=c₈.ch (XO ((dx,dictOf es₃ 3)::i)) (mk _)
 have st₁₁:(c₁₁.wr ρ).St S₁₀:=St.moveF (X:=XO ((dx,dictOf es₃ 3)::i)) (hX:=mk _) st₁₀ (KpF.same (l:=false) (t:=s₁₀.toks+2) hsb₁₀) (by rfl) (fun b hb=>by rw[List.mem_singleton]at hb;rw[hb];exact h9d) ap (fun b hb=>by rw[List.mem_singleton]at hb;rw[hb];exact⟨_,hg₁₀⟩) (Vf st₁₀.2.2 hsb₁₀ hg₁₀ only)
 have to₁₁:=Xx st₁₁
 refine to₁₁ _ _ _ ?_
 have hz4:∀t v,(putL "pushback" (PyData.keyHash w.params "pushback") (.str "pushback" t) v es₃).length≤1000:=fun t v=>Nat.le_of_ble_eq_true rfl
 refine Xq (ZB (x:=x) (C:=240) (dx:=dx) (ox:=instObj 240 dx) (es:=es₃) (m:=3) (m':=4) (K:=KLx w.params) st₁₁ (Xa rfl rfl rfl rfl) (fun s' st'=>Yz st'.1) (fun s' st'=>⟨st'.2.2 (x,_) (.tail _ (.head _)),rfl,rfl,st'.2.2 (dx,_) (.head _)⟩) rfl (by rfl) (by kernel_rfl) (by kernel_rfl) (by kernel_rfl) (by kernel_rfl) (by kernel_rfl) (by kernel_rfl) hz4 (wpAny_mono (YS (ps:=[]) Xd (by decide) _ st₁₁) (fun v₄ s₁₂ q₁₂=> ?_) fun _ _ x=>x.elim))
 obtain⟨pb,vs,rfl,hpb9,hpbn,hpbg,hpr,k₁₂⟩:=q₁₂
 obtain rfl:=Yh hpr
 refine⟨st₁₁.kp k₁₂,fun t₄ s₁₃ h₁₃ k₁₃ st₁₃ hsb₁₃ hg₁₃=>⟨rfl,wpAny_execs_nil ?_⟩⟩
 have f:∀{a b:Shared} {h':Heap} {t:Nat},b={a with heap:=h',toks:=t}→Heap.SameBut dx a.heap h'→KpF false [dx] a b:=fun e hs=>by rw[e];exact .same hs
 have kk:KpF false [dx] s {s₁₃ with heap:=h₁₃,toks:=s₁₃.toks+2}:=
  (((((((((((KpF.of k₁).trans (.of k₂)).trans (.of k₃)).trans (.of k₄)).trans (f rfl hsb₄)).trans ((KpF.of k₆).trans (.of k₇))).trans (f rfl hsb₇)).trans ((KpF.of k₉).trans (.of k₁₀))).trans (f rfl hsb₁₀)).trans (.of k₁₂)).trans (.of k₁₃)).trans (f rfl hsb₁₃)
 have fresh0:∀b,s.heap.objs.size≤b→s.heap.get? b=none:=fun b hb=>by
  cases e:s.heap.get? b with
  |none=>rfl
  |some o=>exact absurd (Heap.lt_size e) (Nat.not_lt.mpr hb)
 have hpd:pb≠dx:=fun q=>by
  have:=st₁₁.2.2 (dx,_) (.head _)
  rw[q,show _=some _ from this]at hpbn;cases hpbn
 have kkA:KpF false [dx] s {s₁₀ with heap:=h₁₀,toks:=s₁₀.toks+2}:=(((((((((KpF.of k₁).trans (.of k₂)).trans (.of k₃)).trans (.of k₄)).trans (f rfl hsb₄)).trans ((KpF.of k₆).trans (.of k₇))).trans (f rfl hsb₇)).trans ((KpF.of k₉).trans (.of k₁₀))).trans (f rfl hsb₁₀))
 refine⟨rfl,hQ _ _ ⟨x,dx,pb,_,_,_,_,_,_,_,_,_,_,rfl,hsb₁₃.extBut _ _ hxd' (st₁₃.2.2 (x,_) (.tail _ (.head _))),hg₁₃,hsb₁₃.extBut _ _ hpd (k₁₃.get (Xv hpb9) hpbg),h9x,h9d,hpb9,fresh0 _ (Nat.le_trans hdx (Nat.le_of_lt hxd)),fresh0 _ hdx,?_,(kk.drop (G:=[]) fun b hb _=>by rw[List.mem_singleton]at hb;rw[hb];exact fresh0 _ hdx).kp⟩⟩
 exact Jy ((kkA.drop (G:=[]) fun b hb _=>by rw[List.mem_singleton]at hb;rw[hb];exact fresh0 _ hdx).kp) hpb9 hpbn
theorem XO.kpf0{objs:List (Addr×Obj)}{F:List Addr}{s s':Shared}(hF:∀p∈objs,p.1∉F)(x:XO objs s)(k:KpF false F s s'):XO objs s':=fun p hp=>by
 obtain⟨h,t,rfl,k⟩:=k
 exact k _ _ rfl (hF p hp) (x p hp)
theorem St.moveT{c:Cx}{ρ:List (Str×PV)}{l:Bool}{F:List Addr}{s s':Shared}{X:Shared→Prop}{hX}(hs:(c.wr ρ).St s)(k:KpF l F s s')(hfl:(ρ.all fun x=>flat x.2)=true∨(∀b∈F,b∈c.V∨Xp b=true))(h9:∀b∈F,439≤b∨Xp b=true)(ha:Apart c.env F)(hl:∀b∈F,439≤b→∃o,s'.heap.get? b=some o)(x:X s'):((c.ch X hX).wr ρ).St s':=by
 have H:=hs.2.1
 have rr:∀y p v,ρ.lookup y=some p→Rep c.V s.heap p v→Rep c.V s'.heap p v:=fun y p v hy r=>by
  rcases hfl with hfl |hF
  ·exact r.flat (Je hfl hy)
  ·exact r.mono fun b c x n hb e=>k.get (Xu hb) (fun m=>by
    rcases hF b m with q |q
    ·exact XM hb q
    ·rw[Xu hb]at q;cases q) e
 have lv:Yd c.V s'.heap:=fun b hb=>by
  obtain⟨h1,o,e⟩:=H.vol b hb
  by_cases hF:b∈F
  ·exact⟨h1,hl b hF h1⟩
  ·exact⟨h1,o,k.get (Xv h1) hF e⟩
 refine⟨⟨fun b o n e=>k.get n (fun m=> ?_) (hs.1.1 b o n e),?_⟩,⟨?_,fun x pv hx hk=> ?_,H.high,fun x c hc=>let⟨n,v,o,ho,hd⟩:=H.there x c hc;⟨n,v,o,k.get (Xv n) (ha.2 x c hc) ho,hd⟩,lv,H.apart⟩,x⟩
 ·rcases h9 b m with q |q
  ·exact absurd (Us e) (Nat.not_lt.mpr q)
  ·rw[n]at q;cases q
 ·obtain⟨h,t,rfl,_⟩:=k
  exact hs.1.2
 ·obtain⟨m,hn,hm⟩:=H.ns
  refine⟨m,JP (fun o e=>k.get H.tab ha.1 e) hn,fun x pv hx hk=> ?_⟩
  obtain⟨v,hv,hr⟩:=hm x pv hx hk
  exact⟨v,hv,rr _ _ _ hx hr⟩
 ·obtain⟨c,v,hc,ht,⟨o,ho,hd⟩,hr⟩:=H.cell x pv hx hk
  exact⟨c,v,hc,ht,⟨o,k.get ht (ha.2 x c hc) ho,hd⟩,rr _ _ _ hx hr⟩
theorem Base.kpfT{l:Bool}{F:List Addr}{w:World}{g:Nat→Obj}{s s':Shared}(B:Base w g s)(k:KpF l F s s')(h9:∀b∈F,439≤b∨Xp b=true):Base w g s':=by
 refine⟨fun b o n e=>k.get n (fun m=> ?_) (B.1 b o n e),?_⟩
 ·rcases h9 b m with q |q
  ·exact absurd (Us e) (Nat.not_lt.mpr q)
  ·rw[n]at q;cases q
 ·obtain⟨h,t,rfl,_⟩:=k
  exact B.2
structure LexA where
 lx:Addr
 dx:Addr
 pb:Addr
 st:Addr
 ds:Addr
 f:Addr
 cc:Addr
 ct:Addr
 cp:Addr
 pl:Addr
noncomputable def LexA.all(a:LexA):List Addr:=[a.lx,a.dx,a.pb,a.st,a.ds,a.f,a.cc,a.ct,a.cp,a.pl]
noncomputable def Vd:Stmt:=((fdB (stN 29))[1]?).getD (.Pass default)
noncomputable def rdFd(ct cp cc:Addr)(doc pm ctv:Value):FuncData:=fnX "_law_read" "_law_lexer.<locals>._law_read" (fdA Vd) (fdB Vd) (fdS Vd) [("text",ct),("place",cp)] .none .none doc pm none (.ref cc) ctv
inductive DxAt(a:LexA)(h:Heap):Prop
 |mk (h1 h2 h3 h4:Int) (t1 t2 t3 t4 t5 t6:Tok) (n:Int) (m:Nat) (e:h.get? a.dx=some (dictOf (Uy h1 h2 h3 h4 t1 t2 t3 t4 t5 t6 n (.ref a.st) (.ref a.pb)) m))
structure Xr(a:LexA)(x:Str)(i:Nat)(h:Heap):Prop where
 big:∀b∈a.all,439≤b
 ne:a.dx≠a.ds∧a.pl≠a.pb
 lx:h.get? a.lx=some (instObj 240 a.dx)
 dx:DxAt a h
 pb:h.get? a.pb=some {cls:=.type "list",data:=.seq #[] 0}
 st:h.get? a.st=some (instObj 240 a.ds)
 ds:∃es m,h.get? a.ds=some (dictOf es m)∧getL "read" es=some (some (.ref a.f))
 f:∃doc pm ctv,h.get? a.f=some {cls:=.type "function",data:=.func (rdFd a.ct a.cp a.cc doc pm ctv)}
 cc:∃oc vs t,h.get? a.cc=some oc∧oc.data= .fields vs∧vs[1]? =some (.str "_law_lexer.<locals>._law_read" t)
 ct:∃o t,h.get? a.ct=some o∧o.data= .cell (some (.str x t))
 cp:∃o,h.get? a.cp=some o∧o.data= .cell (some (.ref a.pl))
 pl:∃t,h.IsList a.pl #[.int (i:Nat) t]
theorem Xr.at{a:LexA}{x:Str}{i:Nat}{h h':Heap}(L:Xr a x i h)(k:∀b o,b∈a.all→439≤b→h.get? b=some o→h'.get? b=some o):Xr a x i h':=by
 have kk:∀{b o},b∈a.all→h.get? b=some o→h'.get? b=some o:=fun hb e=>k _ _ hb (L.big _ hb) e
 obtain⟨b,ne,l1,l2,l3,l4,l5,l6,l7,l8,l9,l10⟩:=L
 refine⟨b,ne,kk (.head _) l1,?_,kk (.tail _ (.tail _ (.head _))) l3,kk (.tail _ (.tail _ (.tail _ (.head _)))) l4,l5.imp fun _ q=>q.imp fun _ q=>⟨kk (.tail _ (.tail _ (.tail _ (.tail _ (.head _))))) q.1,q.2⟩,l6.imp fun _ q=>q.imp fun _ q=>q.imp fun _ e=>kk (.tail _ (.tail _ (.tail _ (.tail _ (.tail _ (.head _)))))) e,l7.imp fun _ q=>q.imp fun _ q=>q.imp fun _ q=>⟨kk (.tail _ (.tail _ (.tail _ (.tail _ (.tail _ (.tail _ (.head _))))))) q.1,q.2⟩,l8.imp fun _ q=>q.imp fun _ q=>⟨kk (.tail _ (.tail _ (.tail _ (.tail _ (.tail _ (.tail _ (.tail _ (.head _)))))))) q.1,q.2⟩,l9.imp fun _ q=>⟨kk (.tail _ (.tail _ (.tail _ (.tail _ (.tail _ (.tail _ (.tail _ (.tail _ (.head _))))))))) q.1,q.2⟩,l10.imp fun _ q=>q.imp fun _ q=>⟨kk (.tail _ (.tail _ (.tail _ (.tail _ (.tail _ (.tail _ (.tail _ (.tail _ (.tail _ (.head _)))))))))) q.1,q.2⟩⟩
 obtain⟨h1,h2,h3,h4,t1,t2,t3,t4,t5,t6,n,m,e⟩:=l2
 exact⟨h1,h2,h3,h4,t1,t2,t3,t4,t5,t6,n,m,kk (.tail _ (.head _)) e⟩
theorem Xr.kpf{a:LexA}{x:Str}{i:Nat}{l:Bool}{F:List Addr}{s s':Shared}(L:Xr a x i s.heap)(hF:∀b∈a.all,b∉F)(k:KpF l F s s'):Xr a x i s'.heap:=L.at fun b o hb h9 e=>k.get (Xv h9) (hF b hb) e
theorem KpF.get0{F:List Addr}{s s':Shared}{b:Addr}{o:Obj}(k:KpF false F s s')(m:b∉F)(e:s.heap.get? b=some o):s'.heap.get? b=some o:=by
 obtain⟨h,t,rfl,k⟩:=k
 exact k _ _ rfl m e
theorem Kp.get0{s s':Shared}{b:Addr}{o:Obj}(k:Kp false s s')(e:s.heap.get? b=some o):s'.heap.get? b=some o:=by
 obtain⟨h,t,rfl,k⟩:=k
 exact k _ _ rfl e
theorem Zf{s:Shared}{b:Addr}(hb:s.heap.objs.size≤b):s.heap.get? b=none:=by
 cases e:s.heap.get? b with
 |none=>rfl
 |some o=>exact absurd (Heap.lt_size e) (Nat.not_lt.mpr hb)
section
variable{c:Cx}
theorem blt_here{s:Shared}{P:Addr}(hs:c.St s)(hP:Xp P=true):s.heap.BuiltinsAt ((S35 c.w c.g).heap.nsMap mainGlobals) P:=by
 obtain⟨bm,o,h1,h2,h3,h4,h5,h6⟩:=blt_at c.w c.g hP
 exact⟨bm,o,h1,h2,h3,h4,hs.1.1 _ _ (by
  cases hq:Xp bm with
  |false=>rfl
  |true=>
   have:(S35 c.w c.g).heap.nsMap mainGlobals "__builtins__"=some (.ref 4):=by kernel_rfl
   rw[h1]at this
   cases this
   cases hq) h5,h6⟩
theorem wp_def{name:Str}{params:Arguments}{body:List Stmt}{scope:Scope}{pos:Pos}{cA P:Addr}{clos:List (Str×Addr)}{s:Shared}{Q:Flow→Shared→Prop}{E:Value→Shared→Prop}(hs:c.St s)(hd0:params.defaults=[])(hk0:params.kw_defaults=[])(ha:annTrees params none c.env=[])(hcode:c.env.code= .ref cA)
(hC:CodeHd s.heap cA P)(hP:Xp P=true)(hT:s.heap.get? P=some (tabObj #[]))(hcl:closureFor scope c.env=pure clos)
(h:∀f c' doc ctv (s':Shared),KpF false [P] s s'→(∃ps,s'.heap.get? P=some (tabObj ps))→s'.heap.get? f=some (fnMade name (qualnameIn c.env name name) params body scope clos doc (((S35 c.w c.g).heap.nsMap mainGlobals "__name__").getD .none) c' ctv)→s'.heap.CodeRec (.ref c') (qualnameIn c.env name name)→
   439≤f→s.heap.get? f=none→439≤c'→s.heap.get? c'=none→wpAny (model pw c.w) c.A (storeName c.env name (.ref f)) (fun _ s''=>Q .next s'') E s'):
 wpAny (model pw c.w) c.A (exec (.FunctionDef name params body [] none [] scope none name pos) c.env) Q E s:=by
 refine nestDef_K hd0 hk0 ha (makeFunction_K hcl c.globs (c.globs▸hs.g) hcode hC hT trivial rfl (fun e=>by rw[←e]at hP;cases hP) (blt_here hs hP) fun c' ctv doc h' tk hx hge hlt hrec htb=> ?_)
 have h9:=hs.1.size
 have h9c:439≤c':=Nat.le_trans h9 hge
 exact h _ c' doc ctv _ ⟨_,_,rfl,fun b o _ m e=>Heap.get?_push_of_some _ (hx b o (fun q=>m (by rw[q];exact List.mem_singleton.mpr rfl)) e)⟩ ⟨_,Heap.get?_push_of_some _ htb⟩ (Heap.get?_push_size _ rfl) (hrec.push _) (Nat.le_trans h9c (Nat.le_of_lt hlt)) (Zf (Nat.le_trans hge (Nat.le_of_lt hlt))) h9c (Zf hge)
end
theorem fr_none{c:Cx}{s:Shared}(hs:c.St s)(hfr:∀b∈c.env.cells.map (·.2),∃y,c.env.cells.lookup y=some b){b:Addr}(hn:s.heap.get? b=none):b∉c.env.locals::c.env.cells.map (·.2):=fun hm=>by
 rcases List.mem_cons.mp hm with q |q
 ·obtain⟨m,⟨o,_,_,ho,_⟩,_⟩:=hs.2.1.ns
  rw[←q,hn]at ho;cases ho
 ·obtain⟨y,hy⟩:=hfr b q
  obtain⟨_,v,o,ho,hd⟩:=hs.2.1.there y b hy
  rw[hn]at ho;cases ho
theorem XS{c:Cx}{x:Str}{p:PV}{v:Value}{s:Shared}(hs:c.St s)(hv:Rep c.V s.heap p v)(hk:Storable c x):∀(A:Around) (Q:Unit→Shared→Prop) (E:Value→Shared→Prop),(∀s',(c.set x p).St s'→KpF c.lam c.fr s s'→Q () s')→wpAny (model pw c.w) A (storeName c.env x v) Q E s:=fun A Q E h=>Zj hs hv hk h
section
variable{c:Cx}
theorem KJ{f:PySem.Str}{np pos:Pos}{e:PySem.Expr}{rest:List PySem.Expr}{ps:List PV}{fv:Value}{K:Frag}{s:Shared}{Q E:Value→Shared→Prop}(hs:c.St s)(hf:EvOk c (.Name f np) (.val fv))(hK:∀s,c.St s→K.In s.heap)(hk:keepIn K fv=true)
(ha:YK c pos (e::rest) ps)(hn:(e::rest).all (fun e=> !XV e)=true)
(h:∀vs s₁,Xb c.V s₁.heap ps vs→Kp c.lam s s₁→c.St s₁→wpAny (model pw c.w) c.A (PySem.call fv vs) Q E s₁):wpAny (model pw c.w) c.A (eval (.Call (.Name f np) (e::rest) [] pos) c.env) Q E s:=by
 have hst:XV e=false:=by
  have:=List.all_eq_true.mp hn e (List.mem_cons_self ..)
  simpa using this
 have hpl:(backTo pos (starEach rest c.env)).any (·.1)=false:=ZM (by rw[List.all_cons,Bool.and_eq_true]at hn;exact hn.2)
 show wpAny _ _ (eval (.Name f np) c.env >>= fun f=>callWith pos f [] (backTo pos (starEach (e::rest) c.env)) (backToKw pos (keywordEach [] c.env))) _ _ s
 refine wpAny_bind (Xi hf hs fun v s₁ r₁ k₁ st₁=> ?_)
 rw[Rep]at r₁
 subst r₁
 refine callWith_K (h₀:=s₁.heap) (hK _ st₁) hk (wpAny_mono (ha.go s₁ st₁) (fun vs s₂ q=> ?_) fun _ _ x=>x.elim) (Xt hst) hpl
 exact⟨hK _ (st₁.kp q.2),h vs s₂ q.1 (k₁.trans q.2) (st₁.kp q.2)⟩
theorem wp_callF0{f:PySem.Str}{np pos:Pos}{fv:Value}{K:Frag}{s:Shared}{Q E:Value→Shared→Prop}(hs:c.St s)(hf:EvOk c (.Name f np) (.val fv))(hK:∀s,c.St s→K.In s.heap)(hk:keepIn K fv=true)
(h:∀s₁,Kp c.lam s s₁→c.St s₁→wpAny (model pw c.w) c.A (PySem.call fv []) Q E s₁):wpAny (model pw c.w) c.A (eval (.Call (.Name f np) [] [] pos) c.env) Q E s:=by
 show wpAny _ _ (eval (.Name f np) c.env >>= fun f=>callWith pos f [] (backTo pos (starEach [] c.env)) (backToKw pos (keywordEach [] c.env))) _ _ s
 refine wpAny_bind (Xi hf hs fun v s₁ r₁ k₁ st₁=> ?_)
 rw[Rep]at r₁
 subst r₁
 exact callWith_K0 (hK _ st₁) hk (h s₁ k₁ st₁)
theorem Zy{x:Str}{pos' pos:Pos}{e:PySem.Expr}{rest:List Stmt}{ρ:List (Str×PV)}{s:Shared}{Q:Flow→Shared→Prop}{E:Value→Shared→Prop}(_:(c.wr ρ).St s)(hk:Storable (c.wr ρ) x)(hsw:swapsWith e (some (.Name x pos')) pos.line (c.wr ρ).env=pure false)
(h:wpAny (model pw (c.wr ρ).w) (c.wr ρ).A (eval e (c.wr ρ).env) (fun v s₁=>wpAny (model pw (c.wr ρ).w) (c.wr ρ).A (storeName (c.wr ρ).env x v) (fun _ s₂=>wpAny (model pw (c.wr ρ).w) (c.wr ρ).A (execs rest (c.wr ρ).env) Q E s₂) E s₁) E s):wpAny (model pw (c.wr ρ).w) (c.wr ρ).A (execs (.Assign [.Name x pos'] e pos::rest) (c.wr ρ).env) Q E s:=by
 refine Xq (c:=c.wr ρ) ?_
 rw[exec_Assign_Name _ _ _ _ _ hsw]
 exact wpAny_bind (wpAny_standAt (wpAny_bind (wpAny_mono h (fun v s₁ q=>wpAny_bind (wpAny_standAt (wpAny_bind (wpAny_bindName (wpAny_mono q (fun _ s₂ q=>wpAny_pure ⟨rfl,q⟩) fun _ _ x=>x))))) fun _ _ x=>x)))
end
theorem lexer_ok{w:World}{g:Nat→Obj}{A:Around}(hh:A.handled=none)(hdep:A.depth+4<recursionLimit){s:Shared}{x:Str}{tx:Tok}(B:Base w g s)(hT:s.heap.get? 394=some (tabObj #[])):
 wpAny (model pw w) A (PySem.call (.ref 399) [.str x tx]) (fun v s'=>∃a:LexA,v= .ref a.lx∧Xr a x 0 s'.heap∧(∃ps,s'.heap.get? 394=some (tabObj ps))∧(∀b∈a.all,s.heap.get? b=none)∧KpF false [394] s s') (fun _ _=>False) s:=by
 have hcells:(cellsFrom (s.heap.objs.size+1) (fdOf (o399 w.params)).scope.names [])=([("place",s.heap.objs.size+2),("text",s.heap.objs.size+1)]:List (Str×Addr)):=by kernel_rfl
 have h9:=B.size
 refine ZK fun Q hQ=> ?_
 refine ZF (l:=false) (V:=[]) (ρb:=[("text",.str x)]) (X:=fun _=>True) (fd:=fdOf (o399 w.params)) (body:=fdB (stN 29)) (o:=o399 w.params) (binds:=[("text",.str x tx)]) hh (by lia) B (fun b hb=>by cases hb) (B.1 399 _ rfl (by kernel_rfl)) (by kernel_rfl)
  ⟨398,o398 w.params,Xn (o398 w.params),3005,by kernel_rfl,B.1 398 _ rfl (by kernel_rfl),by kernel_rfl,by kernel_rfl⟩ (by kernel_rfl) (by kernel_rfl) (by kernel_rfl) ?_ (by kernel_rfl) (by kernel_rfl) (by kernel_rfl) (by kernel_rfl) (by kernel_rfl) ?_ (fun _ _ _ _=>trivial) trivial (fun s₁ k₁ hab st=> ?_)
 ·intro y hy
  obtain rfl:=mem1 hy
  exact .inr ⟨by kernel_rfl,by kernel_rfl⟩
 ·intro y q hy
  obtain⟨rfl,rfl⟩:=lk1 hy
  exact⟨.str x tx,by kernel_rfl,by rw[Rep];exact⟨_,rfl⟩⟩
 let FF:List Addr:=s.heap.objs.size::(callEnvC (fdOf (o399 w.params)) s.heap.objs.size 399).cells.map (fun x:Str×Addr=>x.2)
 let e₁:Env:=callEnvC (fdOf (o399 w.params)) s.heap.objs.size 399
 let A₁:Around:=A.deeper e₁
 let c:Cx:={w:=w,g:=g,A:=A₁,env:=e₁,ρ:=[],lam:=false,V:=[],X:=fun _=>True,hX:=fun _ _ _ _=>trivial,hh:=hh,kind:=by kernel_rfl,globs:=by kernel_rfl,blts:=by kernel_rfl,ground:=Xs w g}
 let ρ₁:List (Str×PV):=[("text",.str x)]
 have st:(c.wr ρ₁).St s₁:=st
 have go:=Xx st
 refine go _ _ _ ?_
 have hbody:fdB (stN 29)=fdB (stN 29):=rfl
 conv at hbody=>rhs;whnf
 rw[hbody]
 refine Ja (ps:=[.int 0]) st (YS (Xc Xe Xd rfl) (by decide)) (.inr ⟨rfl,rfl⟩) rfl (fun b hb=> ?_) fun pl vs s₂ s₃ hpl9 hpln hplg hplr k₂ st₃ k₃=> ?_
 ·have hb':b∈([s.heap.objs.size+2,s.heap.objs.size+1]:List Addr):=hb
  rcases mem2 hb' with rfl |rfl
  ·exact⟨"place",rfl⟩
  ·exact⟨"text",rfl⟩
 let ρ₃:List (Str×PV):=("place",.val (.ref pl))::ρ₁
 have st₃:(c.wr ρ₃).St s₃:=st₃
 have go₃:=Xx st₃
 refine go₃ _ _ _ ?_
 obtain⟨v0,hv0⟩:=Uv hplr
 rw[Rep]at hv0
 obtain⟨t0,rfl⟩:=hv0
 have hF:∀b∈FF,s.heap.objs.size≤b:=fun b hb=>by
  have hb':b∈([s.heap.objs.size,s.heap.objs.size+2,s.heap.objs.size+1]:List Addr):=hb
  rcases mem3 hb' with rfl |rfl |rfl
  ·exact Nat.le_refl _
  ·exact Nat.le_add_right _ _
  ·exact Nat.le_add_right _ _
 have notF:∀{b:Addr},b<s.heap.objs.size→b∉FF:=fun hb m=>absurd (hF _ m) (Nat.not_le.mpr hb)
 have h394:(394:Nat)<s.heap.objs.size:=Nat.lt_of_lt_of_le (by decide) h9
 have T₃:s₃.heap.get? 394=some (tabObj #[]):=k₃.get0 (notF h394) (k₂.get0 (k₁.get0 hT))
 have frN:∀{b:Addr},s₁.heap.get? b=none→b∉FF:=fun{b} hn m=>by
  have hb':b∈([s.heap.objs.size,s.heap.objs.size+2,s.heap.objs.size+1]:List Addr):=m
  rcases mem3 hb' with rfl |rfl |rfl
  ·obtain⟨m,⟨o,_,_,ho,_⟩,_⟩:=st.2.1.ns
   have ho':s₁.heap.get? s.heap.objs.size=some o:=ho
   rw[ho']at hn;cases hn
  ·obtain⟨_,v,o,ho,_⟩:=st.2.1.there "place" (s.heap.objs.size+2) rfl
   rw[ho]at hn;cases hn
  ·obtain⟨_,v,o,ho,_⟩:=st.2.1.there "text" (s.heap.objs.size+1) rfl
   rw[ho]at hn;cases hn
 have mkX:∀objs:List (Addr×Obj),(∀p∈objs,p.1<s.heap.objs.size∨s₁.heap.get? p.1=none)→∀sa s',XO objs sa→KpF false FF sa s'→XO objs s':=fun objs h sa s' x k=>XO.kpf0 (fun p hp=>(h p hp).elim notF frN) x k
 have hC:CodeHd s₃.heap 398 394:=codeHd_of_K (K:=[(398,o398 w.params)]) (XD st₃.1 fun p hp=>by rw[List.mem_singleton]at hp;subst hp;exact⟨rfl,by kernel_rfl⟩) (by kernel_rfl)
 refine Xq (wp_def st₃ rfl rfl rfl (cA:=398) (P:=394) rfl hC rfl T₃ rfl fun f cc doc ctv s₅ k₅ htab hf hrec hf9 hfn hcc9 hccn=> ?_)
 obtain⟨fo,hfo⟩:∃fo,s₅.heap.get? f=some fo∧fo.cls= .type "function"∧fo.dict=none∧fo.slots=#[]∧fo.data= .func (rdFd (s.heap.objs.size+1) (s.heap.objs.size+2) cc doc (((S35 w g).heap.nsMap mainGlobals "__name__").getD .none) ctv):=⟨_,hf,rfl,rfl,rfl,by kernel_rfl⟩
 obtain⟨hf,hfo⟩:=hfo
 obtain⟨cc',oc,cvs,tq,e1,hoc,hdc,hcn⟩:=hrec
 cases e1
 have hcn':cvs[1]? =some (.str "_law_lexer.<locals>._law_read" tq):=hcn.trans (by kernel_rfl)
 have hp1:s₁.heap.get? pl=none:=hpln
 have up:∀{b:Addr},439≤b→s₃.heap.get? b=none→s₁.heap.get? b=none:=fun{b} h9 hn=>by
  cases e:s₁.heap.get? b with
  |none=>rfl
  |some o=>
   exfalso
   by_cases hb:b∈FF
   ·obtain⟨o',ho'⟩:∃o',s₃.heap.get? b=some o':=by
     have hb':b∈([s.heap.objs.size,s.heap.objs.size+2,s.heap.objs.size+1]:List Addr):=hb
     rcases mem3 hb' with rfl |rfl |rfl
     ·obtain⟨m,⟨o,_,_,ho,_⟩,_⟩:=st₃.2.1.ns
      exact⟨o,ho⟩
     ·obtain⟨_,v,o,ho,_⟩:=st₃.2.1.there "place" (s.heap.objs.size+2) rfl
      exact⟨o,ho⟩
     ·obtain⟨_,v,o,ho,_⟩:=st₃.2.1.there "text" (s.heap.objs.size+1) rfl
      exact⟨o,ho⟩
    rw[hn]at ho';cases ho'
   ·rw[k₃.get0 hb (k₂.get0 e)]at hn;cases hn
 have hfn1:=up hf9 hfn
 have hccn1:=up hcc9 hccn
 have hpl₅:s₅.heap.get? pl=some {cls:=.type "list",data:=.seq #[.int 0 t0] 0}:=k₅.get0 (by rw[List.mem_singleton];exact fun q=>absurd hpl9 (by rw[q];decide)) hplg
 let objs2:List (Addr×Obj):=[(f,fo),(cc,oc),(pl,{cls:=.type "list",data:=.seq #[.int 0 t0] 0})]
 have hobj2:∀p∈objs2,p.1<s.heap.objs.size∨s₁.heap.get? p.1=none:=fun p hp=>by
  rcases mem3 hp with rfl |rfl |rfl
  ·exact .inr hfn1
  ·exact .inr hccn1
  ·exact .inr hp1
 let c₆:Cx:=c.ch (XO objs2) (mkX objs2 hobj2)
 have st₆:(c₆.wr ρ₃).St s₅:=St.moveT (X:=XO objs2) (hX:=mkX objs2 hobj2) st₃ k₅ (.inl rfl) (fun b hb=>by rw[List.mem_singleton]at hb;rw[hb];exact .inr rfl) ⟨fun m=>by
  rw[List.mem_singleton]at m
  exact absurd h394 (by rw[←m];exact Nat.lt_irrefl _),fun y c hc m=>by
  have:=(st₃.2.1.there y c hc).1
  rw[List.mem_singleton]at m
  exact absurd this (by rw[m];decide)⟩ (fun b hb h=>by rw[List.mem_singleton]at hb;rw[hb]at h;exact absurd h (by decide)) (Yi hf (Yi hoc (Yi hpl₅ KY)))
 have to₆:=XS (x:="_law_read") (p:=.val (.ref f)) (v:=.ref f) st₆ Xy (.inl rfl)
 refine to₆ _ _ _ fun s₇ st₇ k₇=>⟨rfl,?_⟩
 let ρ₇:List (Str×PV):=("_law_read",.val (.ref f))::ρ₃
 have st₇':(c₆.wr ρ₇).St s₇:=st₇
 have to₇:=Xx st₇'
 refine to₇ _ _ _ ?_
 refine Zy st₇' (.inl rfl) rfl (KJ (K:=KLx w.params) (fv:=.ref 240) (ps:=[.none]) st₇' (XA rfl (by kernel_rfl) rfl) (fun s' st'=>Yz st'.1) (by kernel_rfl) (Xc YI Xd rfl) rfl fun vs s₈ r₈ k₈ st₈=> ?_)
 obtain⟨v8,e8⟩:=Uv r₈
 rw[Rep]at e8
 subst e8
 refine wpAny_mono (make_lex (A:=A₁) hh (show A.depth+1+2<recursionLimit from dep2 hdep (by decide)) st₈.1 (fv:=.none)) (fun v s₉ q₉=> ?_) fun _ _ x=>x.elim
 obtain⟨sa,da,pb2,h1,h2,h3,h4,t1,t2,t3,t4,t5,t6,rfl,hsa,hda,hpb2,hsa9,hda9,hpb9,hsan,hdan,hpbn,k₉⟩:=q₉
 have hfr:∀b∈(callEnvC (fdOf (o399 w.params)) s.heap.objs.size 399).cells.map (·.2),∃y,(callEnvC (fdOf (o399 w.params)) s.heap.objs.size 399).cells.lookup y=some b:=fun b hb=>by
  have hb':b∈([s.heap.objs.size+2,s.heap.objs.size+1]:List Addr):=hb
  rcases mem2 hb' with rfl |rfl
  ·exact⟨"place",rfl⟩
  ·exact⟨"text",rfl⟩
 have nsa:=fr_none st₈ hfr hsan
 have nda:=fr_none st₈ hfr hdan
 have st₉:=st₈.kp k₉
 have to₉:=XS (x:="stand") (p:=.val (.ref sa)) (v:=.ref sa) st₉ Xy (.inl rfl)
 refine to₉ _ _ _ fun s₁₀ st₁₀ k₁₀=> ?_
 have mkX':∀objs:List (Addr×Obj),(∀p∈objs,p.1∉FF)→∀sa s',XO objs sa→KpF false FF sa s'→XO objs s':=fun objs h sa s' x k=>XO.kpf0 h x k
 have ob3:∀od:Obj,∀p∈((da,od)::(sa,instObj 240 da)::objs2),p.1∉FF:=fun od p hp=>by
  rcases Xz.mp hp with rfl |hp
  ·exact nda
  rcases Xz.mp hp with rfl |hp
  ·exact nsa
  ·exact(hobj2 p hp).elim notF frN
 let es₄:List DictEntry:=Uy h1 h2 h3 h4 t1 t2 t3 t4 t5 t6 1 .none (.ref pb2)
 have hda:s₉.heap.get? da=some (dictOf es₄ 4):=hda
 let obs₃:List (Addr×Obj):=(sa,instObj 240 da)::objs2
 let obs₄:List (Addr×Obj):=(da,dictOf es₄ 4)::obs₃
 let ρ₁₁:List (Str×PV):=("stand",.val (.ref sa))::ρ₇
 let c₁₁:Cx:=c₆.ch (XO obs₄) (mkX' _ (ob3 _))
 have st₁₁:(c₁₁.wr ρ₁₁).St s₁₀:=St.look (c:=c₆) (X:=XO obs₄) (hX:=mkX' _ (ob3 _)) (ρ:=ρ₁₁) st₁₀ (Yi (k₁₀.get0 nda hda) (Yi (k₁₀.get0 nsa hsa) st₁₀.2.2))
 have to₁₁:=Xx st₁₁
 refine to₁₁ _ _ _ ?_
 have hz:∀t v,(putL "read" (PyData.keyHash w.params "read") (.str "read" t) v es₄).length≤1000:=fun t v=>Nat.le_of_ble_eq_true rfl
 refine Xq (ZB (x:=sa) (C:=240) (dx:=da) (ox:=instObj 240 da) (es:=es₄) (m:=4) (m':=5) (K:=KLx w.params) st₁₁ (Xa rfl rfl rfl rfl) (fun s' st'=>Yz st'.1) (fun s' st'=>⟨st'.2.2 (sa,_) (.tail _ (.head _)),rfl,rfl,st'.2.2 (da,_) (.head _)⟩) rfl (by rfl) (by kernel_rfl) (by kernel_rfl) (by kernel_rfl) (by kernel_rfl) (by kernel_rfl) (by kernel_rfl) hz (Xi (pv:=.val (.ref f)) (Xa rfl rfl rfl rfl) st₁₁ fun v₁₂ s₁₂ r₁₂ k₁₂ st₁₂=>⟨st₁₂,fun t₇ s₁₃ h₁₃ k₁₃ st₁₃ hsb₁₃ hg₁₃=>⟨rfl,?_⟩⟩))
 rw[Rep]at r₁₂
 subst r₁₂
 obtain⟨es5,hes5,hrd⟩:∃es5,h₁₃.get? da=some (dictOf es5 5)∧getL "read" es5=some (some (.ref f)):=⟨_,hg₁₃,by kernel_rfl⟩
 have ne3:∀p∈obs₃,p.1≠da:=fun p hp=>by
  rcases Xz.mp hp with rfl |hp
  ·exact fun q=>by
    have e:sa=da:=q
    rw[e,hda]at hsa
    cases hsa
  ·have e:s₈.heap.get? p.1=some p.2:=st₈.2.2 p hp
   exact Yl e hdan
 let obs₅:List (Addr×Obj):=(da,dictOf es5 5)::obs₃
 let S₁₄:Shared:={s₁₃ with heap:=h₁₃,toks:=s₁₃.toks+2}
 let c₁₄:Cx:=c₁₁.ch (XO obs₅) (mkX' _ (ob3 _))
 have st₁₄:(c₁₄.wr ρ₁₁).St S₁₄:=St.moveF (X:=XO obs₅) (hX:=mkX' _ (ob3 _)) st₁₃ (KpF.same (l:=false) (t:=s₁₃.toks+2) hsb₁₃) (by rfl) (fun b hb=>by rw[List.mem_singleton]at hb;rw[hb];exact hda9) ⟨fun m=>nda (by rw[List.mem_singleton]at m;rw[←m];exact List.mem_cons_self ..),fun y c hc m=>nda (by
  rw[List.mem_singleton]at m
  rw[←m]
  exact List.mem_cons_of_mem _ (Zu hc))⟩ (fun b hb=>by rw[List.mem_singleton]at hb;rw[hb];exact⟨_,hes5⟩) (Vf st₁₃.2.2 hsb₁₃ hes5 ne3)
 have to₁₄:=Xx st₁₄
 refine to₁₄ _ _ _ ?_
 refine wpAny_execs_cons ?_
 rw[exec_Return_some]
 refine wpAny_bind (wpAny_standAt (wpAny_bind (KJ (K:=KLx w.params) (fv:=.ref 240) (ps:=[.val (.ref sa)]) st₁₄ (XA rfl (by kernel_rfl) rfl) (fun s' st'=>Yz st'.1) (by kernel_rfl) (Xc (Xa rfl rfl rfl rfl) Xd rfl) rfl fun vs s₁₅ r₁₅ k₁₅ st₁₅=> ?_)))
 obtain⟨v15,e15⟩:=Uv r₁₅
 rw[Rep]at e15
 subst e15
 refine wpAny_mono (make_lex (A:=A₁) hh (show A.depth+1+2<recursionLimit from dep2 hdep (by decide)) st₁₅.1 (fv:=.ref sa)) (fun v s₁₆ q₁₆=> ?_) fun _ _ x=>x.elim
 obtain⟨lx,dx,pb,i1,i2,i3,i4,u1,u2,u3,u4,u5,u6,rfl,hlx,hdx,hpb,hlx9,hdx9,hpb9',hlxn,hdxn,hpbn',k₁₆⟩:=q₁₆
 have xo:XO obs₅ s₁₅:=st₁₅.2.2
 obtain⟨ct,vt,hct,_,⟨oct,hoct,hdct⟩,hvt⟩:=st₁₅.2.1.cell "text" (.str x) rfl (.inl rfl)
 obtain rfl:s.heap.objs.size+1=ct:=Option.some.inj hct
 obtain⟨cp,vp,hcp,_,⟨ocp,hocp,hdcp⟩,hvp⟩:=st₁₅.2.1.cell "place" (.val (.ref pl)) rfl (.inl rfl)
 obtain rfl:s.heap.objs.size+2=cp:=Option.some.inj hcp
 rw[Rep]at hvt
 rw[Rep]at hvp
 obtain⟨tt,rfl⟩:=hvt
 subst hvp
 have lift:∀{F:List Addr} {a b:Shared},(∀y∈F,y∈394::da::FF)→KpF false F a b→KpF false (394::da::FF) a b:=fun h k=>k.sub h
 have fr1:∀y∈FF,y∈394::da::FF:=fun y hy=>.tail _ (.tail _ hy)
 have one4:∀y∈[394],y∈394::da::FF:=fun y hy=>by rw[List.mem_singleton]at hy;rw[hy];exact .head _
 have one5:∀y∈[da],y∈394::da::FF:=fun y hy=>by rw[List.mem_singleton]at hy;rw[hy];exact .tail _ (.head _)
 have kA:KpF false _ s s₃:=((KpF.of k₁).trans (.of k₂)).trans (lift fr1 k₃)
 have kB:KpF false _ s s₈:=((kA.trans (lift one4 k₅)).trans (lift fr1 k₇)).trans (.of k₈)
 have kC:KpF false _ s s₁₅:=(((((kB.trans (.of k₉)).trans (lift fr1 k₁₀)).trans (.of k₁₂)).trans (.of k₁₃)).trans (lift one5 (KpF.same (l:=false) (t:=s₁₃.toks+2) hsb₁₃))).trans (.of k₁₅)
 have live:∀{b:Addr} {o:Obj} {a:Shared},b≠da→439≤b→s.heap.get? b=some o→KpF false (394::da::FF) s a→a.heap.get? b=some o:=fun{b o a} hb h9 e k=>k.get0 (fun m=>by
  rcases List.mem_cons.mp m with q |m
  ·rw[q]at h9;exact absurd h9 (by decide)
  rcases List.mem_cons.mp m with q |m
  ·exact hb q
  ·exact notF (Heap.lt_size e) m) e
 have fda:s.heap.get? da=none:=by
  cases e:s.heap.get? da with
  |none=>rfl
  |some o=>
   have k8':KpF false (394::FF) s s₈:=(((((KpF.of k₁).trans (.of k₂)).trans (k₃.sub fun y hy=>.tail _ hy)).trans (k₅.sub fun y hy=>by rw[List.mem_singleton]at hy;rw[hy];exact .head _)).trans (k₇.sub fun y hy=>.tail _ hy)).trans (.of k₈)
   have:=k8'.get0 (fun m=>by
    rcases List.mem_cons.mp m with q |m
    ·rw[q]at hda9;exact absurd hda9 (by decide)
    ·exact notF (Heap.lt_size e) m) e
   rw[hdan]at this;cases this
 have back:∀{b:Addr} {a:Shared},439≤b→a.heap.get? b=none→KpF false (394::da::FF) s a→s.heap.get? b=none:=fun{b a} h9 hn k=>by
  by_cases hb:b=da
  ·rw[hb];exact fda
  ·cases e:s.heap.get? b with
   |none=>rfl
   |some o=>rw[live hb h9 e k]at hn;cases hn
 have k₁ₙ:s₁.heap.get? pl=none→s.heap.get? pl=none:=fun hn=>back hpl9 hn (.of k₁)
 have T₁₆:∃ps,s₁₆.heap.get? 394=some (tabObj ps):=by
  obtain⟨ps,hps⟩:=htab
  have n4:(394:Nat)∉FF:=notF h394
  refine⟨ps,k₁₆.get0 (k₁₅.get0 ((KpF.same (l:=false) (t:=s₁₃.toks+2) hsb₁₃).get0 (fun m=> ?_) (k₁₃.get0 (k₁₂.get0 (k₁₀.get0 n4 (k₉.get0 (k₈.get0 (k₇.get0 n4 hps))))))))⟩
  rw[List.mem_singleton]at m
  rw[←m]at hda9
  exact absurd hda9 (by decide)
 have g2:∀p∈obs₅,s₁₆.heap.get? p.1=some p.2:=fun p hp=>k₁₆.get0 (xo p hp)
 have e9L:439≤s.heap.objs.size+1∧439≤s.heap.objs.size+2:=⟨Nat.le_succ_of_le h9,Nat.le_succ_of_le (Nat.le_succ_of_le h9)⟩
 let a0:LexA:=⟨lx,dx,pb,sa,da,f,cc,s.heap.objs.size+1,s.heap.objs.size+2,pl⟩
 have q1:∀b∈a0.all,439≤b:=by
  intro b hb
  rcases mem10 hb with rfl |rfl |rfl |rfl |rfl |rfl |rfl |rfl |rfl |rfl
  ·exact hlx9
  ·exact hdx9
  ·exact hpb9'
  ·exact hsa9
  ·exact hda9
  ·exact hf9
  ·exact hcc9
  ·exact e9L.1
  ·exact e9L.2
  ·exact hpl9
 have q2:a0.dx≠a0.ds∧a0.pl≠a0.pb:=⟨fun q=>Yl (xo (da,_) (.head _)) hdxn q.symm,Yl (xo (pl,{cls:=.type "list",data:=.seq #[.int 0 t0] 0}) (.tail _ (.tail _ (.tail _ (.tail _ (.head _)))))) hpbn'⟩
 have q3:s₁₆.heap.get? a0.st=some (instObj 240 a0.ds):=g2 (sa,instObj 240 da) (.tail _ (.head _))
 have q4:∃es m,s₁₆.heap.get? a0.ds=some (dictOf es m)∧getL "read" es=some (some (.ref a0.f)):=⟨es5,5,g2 (da,dictOf es5 5) (.head _),hrd⟩
 have q5:∃doc pm ctv,s₁₆.heap.get? a0.f=some {cls:=.type "function",data:=.func (rdFd a0.ct a0.cp a0.cc doc pm ctv)}:=by
  obtain⟨e1,e2,e3,e4⟩:=hfo
  refine⟨doc,(((S35 w g).heap.nsMap mainGlobals "__name__").getD .none),ctv,?_⟩
  have e:=g2 (f,fo) (.tail _ (.tail _ (.head _)))
  rw[e]
  obtain⟨a1,a2,a3,a4⟩:=fo
  dsimp only at e1 e2 e3 e4
  subst e1 e2 e3 e4
  rfl
 have q6:∃oc vs t,s₁₆.heap.get? a0.cc=some oc∧oc.data= .fields vs∧vs[1]? =some (.str "_law_lexer.<locals>._law_read" t):=⟨oc,cvs,tq,g2 (cc,oc) (.tail _ (.tail _ (.tail _ (.head _)))),hdc,hcn'⟩
 have q7:∃t,s₁₆.heap.IsList a0.pl #[.int ((0:Nat):Int) t]:=⟨t0,_,g2 (pl,{cls:=.type "list",data:=.seq #[.int 0 t0] 0}) (.tail _ (.tail _ (.tail _ (.tail _ (.head _))))),rfl,0,rfl⟩
 have q8:∀b∈a0.all,s.heap.get? b=none:=by
  intro b hb
  rcases mem10 hb with rfl |rfl |rfl |rfl |rfl |rfl |rfl |rfl |rfl |rfl
  ·exact back hlx9 hlxn kC
  ·exact back hdx9 hdxn kC
  ·exact back hpb9' hpbn' kC
  ·exact back hsa9 hsan kB
  ·exact fda
  ·exact back hf9 hfn kA
  ·exact back hcc9 hccn kA
  ·exact Zf (Nat.le_succ _)
  ·exact Zf (Nat.le_succ_of_le (Nat.le_succ _))
  ·exact k₁ₙ hp1
 refine wpAny_pure (hQ _ _ ⟨a0,rfl,⟨q1,q2,hlx,⟨i1,i2,i3,i4,u1,u2,u3,u4,u5,u6,1,4,hdx⟩,hpb,q3,q4,q5,q6,⟨oct,tt,k₁₆.get0 hoct,hdct⟩,⟨ocp,k₁₆.get0 hocp,hdcp⟩,q7⟩,T₁₆,q8,?_⟩)
 exact(kC.trans (.of k₁₆)).drop fun b hb hn=>by
  rcases List.mem_cons.mp hb with q |m
  ·exact absurd (List.mem_singleton.mpr q) hn
  rcases List.mem_cons.mp m with q |m
  ·rw[q];exact fda
  ·exact Zf (hF b m)
theorem Un{h:Heap}{a b:Addr}{its:Array Value}{o:Obj}(hl:h.IsList a its)(e:h.get? b=some o)(hn:∀n,o.data≠.seq its n):a≠b:=fun q=>by
 obtain⟨o',e',_,n,hd⟩:=hl
 rw[q,e]at e'
 cases e'
 exact hn n hd
noncomputable def LexA.vol(a:LexA):List Addr:=[a.pl,a.ct,a.cp,a.dx]
theorem Xr.step{a:LexA}{x:Str}{i j:Nat}{h h':Heap}(L:Xr a x i h)(k:∀b o,b∈a.all→b∉a.vol→h.get? b=some o→h'.get? b=some o)
(hct:∃o t,h'.get? a.ct=some o∧o.data= .cell (some (.str x t)))(hcp:∃o,h'.get? a.cp=some o∧o.data= .cell (some (.ref a.pl)))
(hdx:DxAt a h')(hpl:∃t,h'.IsList a.pl #[.int (j:Nat) t]):Xr a x j h':=by
 obtain⟨b,ne,l1,l2,l3,l4,l5,l6,l7,l8,l9,l10⟩:=L
 obtain⟨h1,h2,h3,h4,t1,t2,t3,t4,t5,t6,n,m,l2⟩:=l2
 obtain⟨es,m5,l5,r5⟩:=l5
 obtain⟨d6,p6,c6,l6⟩:=l6
 obtain⟨oc,vs,t7,l7,r7,r7'⟩:=l7
 obtain⟨o8,t8,l8,r8⟩:=l8
 obtain⟨o9,l9,r9⟩:=l9
 obtain⟨t10,l10⟩:=l10
 have nv:∀{b:Addr} {o:Obj},h.get? b=some o→(∀n,o.data≠.seq #[.int (i:Nat) t10] n)→(∀v,o.data≠.cell v)→b≠a.dx→b∉a.vol:=fun{b o} e n1 n2 n3 m=>by
  rcases mem4 m with q |q |q |q
  ·exact Un l10 e n1 q
  ·rw[←q,l8]at e;cases e;exact n2 _ r8
  ·rw[←q,l9]at e;cases e;exact n2 _ r9
  ·exact n3 q.symm
 have nd:∀{b:Addr} {o:Obj},h.get? b=some o→(∀es n,o.data≠.dict es n)→b≠a.dx:=fun{b o} e n1 q=>by rw[q,l2]at e;cases e;exact n1 _ _ rfl
 refine⟨b,ne,k _ _ (.head _) (nv l1 (fun _ q=>by cases q) (fun _ q=>by cases q) (nd l1 fun _ _ q=>by cases q)) l1,hdx,k _ _ (.tail _ (.tail _ (.head _))) (nv l3 (fun _ q=>by cases q) (fun _ q=>by cases q) (nd l3 fun _ _ q=>by cases q)) l3,k _ _ (.tail _ (.tail _ (.tail _ (.head _)))) (nv l4 (fun _ q=>by cases q) (fun _ q=>by cases q) (nd l4 fun _ _ q=>by cases q)) l4,
  ⟨es,m5,k _ _ (.tail _ (.tail _ (.tail _ (.tail _ (.head _))))) (nv l5 (fun _ q=>by cases q) (fun _ q=>by cases q) ne.1.symm) l5,r5⟩,⟨d6,p6,c6,k _ _ (.tail _ (.tail _ (.tail _ (.tail _ (.tail _ (.head _)))))) (nv l6 (fun _ q=>by cases q) (fun _ q=>by cases q) (nd l6 fun _ _ q=>by cases q)) l6⟩,⟨oc,vs,t7,k _ _ (.tail _ (.tail _ (.tail _ (.tail _ (.tail _ (.tail _ (.head _))))))) (nv l7 (fun _ q=>by rw[r7]at q;cases q) (fun _ q=>by rw[r7]at q;cases q) (nd l7 fun _ _ q=>by rw[r7]at q;cases q)) l7,r7,r7'⟩,hct,hcp,hpl⟩
section
variable{c:Cx}
theorem UU{a:Addr}{k:Int}{r:PV}(h0:0≤k)(hfit:k<2 ^ 63)(h:∀s,c.St s→∃its x,s.heap.IsList a its∧its[k.toNat]? =some x∧Rep c.V s.heap r x):KG c (.val (.ref a)) (.int k) r:=fun s v u hs h1 h2=>by
 rw[Rep]at h1
 rw[Rep]at h2
 subst h1
 obtain⟨t,rfl⟩:=h2
 obtain⟨its,x,hl,hx,hr⟩:=h s hs
 exact⟨"list",_,slot_list_getitem.lookup,hl.typeIs,wpAny_getItem_list hl h0 hfit hx ⟨hr,.refl s⟩⟩
end
theorem Xr.live{a:LexA}{x:Str}{i:Nat}{h:Heap}(La:Xr a x i h){b:Addr}(hb:b∈a.all):∃o,h.get? b=some o:=by
 rcases mem10 hb with rfl |rfl |rfl |rfl |rfl |rfl |rfl |rfl |rfl |rfl
 ·exact⟨_,La.lx⟩
 ·obtain⟨_,_,_,_,_,_,_,_,_,_,_,_,e⟩:=La.dx;exact⟨_,e⟩
 ·exact⟨_,La.pb⟩
 ·exact⟨_,La.st⟩
 ·obtain⟨_,_,e,_⟩:=La.ds;exact⟨_,e⟩
 ·obtain⟨_,_,_,e⟩:=La.f;exact⟨_,e⟩
 ·obtain⟨_,_,_,e,_⟩:=La.cc;exact⟨_,e⟩
 ·obtain⟨_,_,e,_⟩:=La.ct;exact⟨_,e⟩
 ·obtain⟨_,e,_⟩:=La.cp;exact⟨_,e⟩
 ·obtain⟨_,o,e,_⟩:=La.pl;exact⟨_,e⟩
theorem LexA.m_dx(a:LexA):a.dx∈a.all:=.tail _ (.head _)
theorem LexA.m_ct(a:LexA):a.ct∈a.all:=.tail _ (.tail _ (.tail _ (.tail _ (.tail _ (.tail _ (.tail _ (.head _)))))))
theorem LexA.m_cp(a:LexA):a.cp∈a.all:=.tail _ (.tail _ (.tail _ (.tail _ (.tail _ (.tail _ (.tail _ (.tail _ (.head _))))))))
theorem LexA.m_pl(a:LexA):a.pl∈a.all:=.tail _ (.tail _ (.tail _ (.tail _ (.tail _ (.tail _ (.tail _ (.tail _ (.tail _ (.head _)))))))))
theorem read_ok{w:World}{g:Nat→Obj}{a:LexA}{x:Str}{i:Nat}{A:Around}(hh:A.handled=none)(hdep:A.depth+1<recursionLimit){s:Shared}{t:Tok}(B:Base w g s)(La:Xr a x i s.heap)(hx:x.length≤100000)(hi:i≤100000):
 wpAny (model pw w) A (PySem.call (.ref a.f) [.int 1 t]) (fun v s'=>(∃t',v= .str (Str.sl x (some i) (some (i+1))) t')∧Xr a x (i+1) s'.heap∧KpF false [a.pl,a.ct,a.cp] s s') (fun _ _=>False) s:=by
 refine ZK fun Q hQ=> ?_
 obtain⟨doc,pm,ctv,hf⟩:=La.f
 obtain⟨oc,vs,tc,hcc,hcd,hcv⟩:=La.cc
 obtain⟨oct,tt,hct,hctd⟩:=La.ct
 obtain⟨ocp,hcp,hcpd⟩:=La.cp
 obtain⟨L,hL⟩:∃L,L=s.heap.objs.size:=⟨_,rfl⟩
 have allLive:∀b∈a.all,b≠s.heap.objs.size:=fun b hb q=>by
  obtain⟨o,e⟩:=La.live hb
  exact absurd (Heap.lt_size e) (by rw[q];exact Nat.lt_irrefl _)
 let fd:FuncData:=rdFd a.ct a.cp a.cc doc pm ctv
 let FF:List Addr:=s.heap.objs.size::(rdFd a.ct a.cp a.cc doc pm ctv).closure.map (fun x:Str×Addr=>x.2)
 let X:Shared→Prop:=fun s'=>∀b o,b∈a.all→b≠a.ct→b≠a.cp→s.heap.get? b=some o→s'.heap.get? b=some o
 have hclo:(rdFd a.ct a.cp a.cc doc pm ctv).closure=([("text",a.ct),("place",a.cp)]:List (Str×Addr)):=rfl
 have hX:∀s₁ s',X s₁→KpF false FF s₁ s'→X s':=fun s₁ s' xx k b o hb h1 h2 e=>k.get0 (fun m=>by
  have m:_∈([s.heap.objs.size,a.ct,a.cp]:List Addr):=m
  rcases mem3 m with q |q |q
  ·exact allLive b hb q.symm
  ·exact h1 q.symm
  ·exact h2 q.symm) (xx b o hb h1 h2 e)
 refine Zh (l:=false) (V:=[]) (ρb:=[("size",.int 1)]) (ρf:=[("text",.str x),("place",.val (.ref a.pl))]) (X:=X) (fd:=rdFd a.ct a.cp a.cc doc pm ctv) (body:=fdB Vd) (binds:=[("size",.int 1 t)]) hh (by lia) B (fun b hb=>by cases hb) hf rfl ⟨a.cc,oc,vs,tc,rfl,hcc,hcd,hcv⟩ rfl (.of_eq (by kernel_rfl)) (by kernel_rfl) ?_ rfl rfl (by kernel_rfl) (by kernel_rfl) (by kernel_rfl) ?_ ?_ ?_ ?_ hX (fun b o _ _ _ e=>e) (fun s₁ k₁ htk st=> ?_)
 ·intro y hy
  rw[List.mem_singleton]at hy
  subst hy
  kernel_rfl
 ·intro y q hy
  obtain⟨rfl,rfl⟩:=lk1 hy
  exact⟨.int 1 t,by kernel_rfl,YG⟩
 ·intro y q hy
  rcases lk2 hy with⟨rfl,rfl⟩ | ⟨rfl,rfl⟩
  ·exact⟨by kernel_rfl,a.ct,_,by kernel_rfl,⟨oct,hct,hctd⟩,by rw[Rep];exact⟨_,rfl⟩⟩
  ·exact⟨by kernel_rfl,a.cp,_,by kernel_rfl,⟨ocp,hcp,hcpd⟩,Xy⟩
 ·intro y cc hy
  rcases lk2 hy with⟨_,rfl⟩ | ⟨_,rfl⟩
  ·exact⟨La.big _ a.m_ct,_,oct,hct,hctd⟩
  ·exact⟨La.big _ a.m_cp,_,ocp,hcp,hcpd⟩
 ·intro y z cc hy hz
  have hne:a.ct≠a.cp:=fun q=>by
   rw[q,hcp]at hct
   cases hct
   rw[hcpd]at hctd
   cases hctd
  rcases lk2 hy with⟨e1,q1⟩ | ⟨e1,q1⟩<;>rcases lk2 hz with⟨e2,q2⟩ | ⟨e2,q2⟩
  ·exact e1.symm.trans e2
  ·exact absurd (q1.trans q2.symm) hne
  ·exact absurd (q2.trans q1.symm) hne
  ·exact e1.symm.trans e2
 let e₁:Env:=callEnv fd s.heap.objs.size a.f
 let A₁:Around:=A.deeper e₁
 let c:Cx:={w:=w,g:=g,A:=A₁,env:=e₁,ρ:=[],lam:=false,V:=[],X:=X,hX:=hX,hh:=hh,kind:=by kernel_rfl,globs:=by rfl,blts:=by rfl,ground:=Xs w g}
 let ρ₁:List (Str×PV):=[("size",.int 1),("text",.str x),("place",.val (.ref a.pl))]
 have st:(c.wr ρ₁).St s₁:=st
 have go:=Xx st
 refine go _ _ _ ?_
 have plAt:∀{s':Shared},X s'→∃t,s'.heap.IsList a.pl #[.int (i:Nat) t]:=fun{s'} xx=>by
  obtain⟨t,o,e,r⟩:=La.pl
  have h1:a.pl≠a.ct:=Un ⟨o,e,r⟩ hct fun n q=>by rw[hctd]at q;cases q
  have h2:a.pl≠a.cp:=Un ⟨o,e,r⟩ hcp fun n q=>by rw[hcpd]at q;cases q
  exact⟨t,o,xx _ _ a.m_pl h1 h2 e,r⟩
 have hbody:fdB Vd=fdB Vd:=rfl
 conv at hbody=>rhs;whnf
 rw[hbody]
 refine Ji st (.str (Str.sl x (some i) (some (i+1)))) (YZ (q:=.str x) (Xa rfl rfl rfl rfl) (Yy (n:=i) (XY (p:=.val (.ref a.pl)) (q:=.int 0) (Xa rfl rfl rfl rfl) Xe (UU (by decide) (by decide) fun s' st'=> ?_) rfl)) (Yy (n:=i+1) (YP (XI (p:=.int i) (q:=.int 1) (XY (p:=.val (.ref a.pl)) (q:=.int 0) (Xa rfl rfl rfl rfl) Xe (UU (by decide) (by decide) fun s' st'=> ?_) rfl) (Xa rfl rfl rfl rfl) Jh) (by rw[Int.natCast_add];rfl))) (Ki (Nat.le_trans hx (by decide +kernel)))) (.inl rfl) rfl fun s₂ st₂ k₂=> ?_
 ·obtain⟨t,hl⟩:=plAt st'.2.2
  exact⟨_,_,hl,rfl,YG⟩
 ·obtain⟨t,hl⟩:=plAt st'.2.2
  exact⟨_,_,hl,rfl,YG⟩
 let y:Str:=Str.sl x (some i) (some (i+1))
 let ρ₂:List (Str×PV):=("char",.str y)::ρ₁
 have plN:a.pl∉FF:=fun m=>by
  obtain⟨t,o,e,r⟩:=La.pl
  have m:_∈([s.heap.objs.size,a.ct,a.cp]:List Addr):=m
  rcases mem3 m with q |q |q
  ·exact allLive a.pl a.m_pl q.symm
  ·exact Un ⟨o,e,r⟩ hct (fun n q=>by rw[hctd]at q;cases q) q.symm
  ·exact Un ⟨o,e,r⟩ hcp (fun n q=>by rw[hcpd]at q;cases q) q.symm
 refine Xq (wpAny_Assign_Subscript (Xi (pv:=.int (i+1:Nat)) (YP (XI (p:=.int i) (q:=.int 1) (XY (p:=.val (.ref a.pl)) (q:=.int 0) (Xa rfl rfl rfl rfl) Xe (UU (by decide) (by decide) fun s' st'=> ?_) rfl) (Xa rfl rfl rfl rfl) Jh) (by rw[Int.natCast_add];rfl)) st₂ fun v₃ s₃ r₃ k₃ st₃=>Xi (Xa (pv:=.val (.ref a.pl)) rfl rfl rfl rfl) st₃ fun v₄ s₄ r₄ k₄ st₄=>Xi (Xe (i:=0)) st₄ fun v₅ s₅ r₅ k₅ st₅=> ?_))
 ·obtain⟨t,hl⟩:=plAt st'.2.2
  exact⟨_,_,hl,rfl,YG⟩
 rw[Rep]at r₃
 rw[Rep]at r₄
 rw[Rep]at r₅
 obtain⟨t₃,rfl⟩:=r₃
 obtain⟨t₅,rfl⟩:=r₅
 subst r₄
 obtain⟨t₆,hl₆⟩:=plAt st₅.2.2
 refine wpAny_setItem_list hl₆ (by decide) (by decide) (by repeat constructor) fun h₇ hl₇ hs₇=>⟨rfl,?_⟩
 have k₇:KpF false [a.pl] s₅ {s₅ with heap:=h₇}:=.same hs₇
 let X2:Shared→Prop:=fun s'=>(∀b o,b∈a.all→b≠a.ct→b≠a.cp→b≠a.pl→s.heap.get? b=some o→s'.heap.get? b=some o)∧∃t,s'.heap.IsList a.pl #[.int ((i+1:Nat):Int) t]
 have hX2:∀s₁ s',X2 s₁→KpF false FF s₁ s'→X2 s':=fun s₁ s' xx k=>⟨fun b o hb h1 h2 h3 e=>k.get0 (fun m=>by
  have m:_∈([s.heap.objs.size,a.ct,a.cp]:List Addr):=m
  rcases mem3 m with q |q |q
  ·exact allLive b hb q.symm
  ·exact h1 q.symm
  ·exact h2 q.symm) (xx.1 b o hb h1 h2 h3 e),let⟨t,o,e,r⟩:=xx.2;⟨t,o,k.get0 plN e,r⟩⟩
 let c₈:Cx:=c.ch X2 hX2
 let S₈:Shared:={s₅ with heap:=h₇}
 have st₈:(c₈.wr _).St S₈:=St.moveF (X:=X2) (hX:=hX2) st₅ k₇ (by rfl) (fun b hb=>by rw[List.mem_singleton]at hb;rw[hb];exact La.big _ a.m_pl) ⟨fun m=>plN (by rw[List.mem_singleton]at m;rw[←m];exact List.mem_cons_self ..),fun y c hc m=>plN (by
  rw[List.mem_singleton]at m
  rw[←m]
  exact List.mem_cons_of_mem _ (Zu hc))⟩ (fun b hb=>by
  rw[List.mem_singleton]at hb
  rw[hb]
  obtain⟨o,e,_⟩:=hl₇
  exact⟨o,e⟩) ⟨fun b o hb h1 h2 h3 e=>hs₇.extBut _ _ h3 (st₅.2.2 b o hb h1 h2 e),⟨t₃,hl₇⟩⟩
 have to₈:=Xx st₈
 refine to₈ _ _ _ ?_
 refine wpAny_execs_cons ?_
 rw[exec_Return_some]
 refine wpAny_bind (wpAny_standAt (wpAny_bind (Xi (Xa (pv:=.str (Str.sl x (some i) (some (i+1)))) rfl rfl rfl rfl) st₈ fun v₉ s₉ r₉ k₉ st₉=>wpAny_pure ?_)))
 rw[Rep]at r₉
 have xx:X2 s₉:=st₉.2.2
 obtain⟨c1,v1,hc1,_,⟨o1,e1,d1⟩,hr1⟩:=st₉.2.1.cell "text" (.str x) (by rfl) (.inr (by kernel_rfl))
 obtain⟨c2,v2,hc2,_,⟨o2,e2,d2⟩,hr2⟩:=st₉.2.1.cell "place" (.val (.ref a.pl)) (by rfl) (.inr (by kernel_rfl))
 obtain rfl:a.ct=c1:=by
  have h:([("text",a.ct),("place",a.cp)]:List (Str×Addr)).lookup (Str.ofString "text")=some c1:=hc1
  exact Option.some.inj h
 obtain rfl:a.cp=c2:=by
  have h:([("text",a.ct),("place",a.cp)]:List (Str×Addr)).lookup (Str.ofString "place")=some c2:=hc2
  exact Option.some.inj h
 rw[Rep]at hr1
 rw[Rep]at hr2
 obtain⟨tt',rfl⟩:=hr1
 subst hr2
 have nm:∀{b:Addr},b∉a.vol→b≠a.pl∧b≠a.ct∧b≠a.cp:=fun h=>by
  exact⟨fun q=>h (by rw[q];exact .head _),fun q=>h (by rw[q];exact .tail _ (.head _)),fun q=>h (by rw[q];exact .tail _ (.tail _ (.head _)))⟩
 refine hQ _ _ ⟨r₉,La.step (fun b o hb hv e=>xx.1 b o hb (nm hv).2.1 (nm hv).2.2 (nm hv).1 e) ⟨o1,tt',e1,d1⟩ ⟨o2,e2,d2⟩ ?_ xx.2,?_⟩
 ·obtain⟨h1,h2,h3,h4,u1,u2,u3,u4,u5,u6,n,m,e⟩:=La.dx
  refine⟨h1,h2,h3,h4,u1,u2,u3,u4,u5,u6,n,m,xx.1 _ _ a.m_dx (fun q=> ?_) (fun q=> ?_) (fun q=> ?_) e⟩
  ·rw[q,hct]at e;cases e;cases hctd
  ·rw[q,hcp]at e;cases e;cases hcpd
  ·obtain⟨t,o,e',r⟩:=La.pl
   exact Un ⟨o,e',r⟩ e (fun n q=>by cases q) q.symm
 ·have lift:∀{s₁ s':Shared},KpF false FF s₁ s'→KpF false [s.heap.objs.size,a.pl,a.ct,a.cp] s₁ s':=fun k=>k.sub fun b hb=>by
   have hb:b∈([s.heap.objs.size,a.ct,a.cp]:List Addr):=hb
   rcases List.mem_cons.mp hb with q |q
   ·rw[q];exact .head _
   ·exact .tail _ (.tail _ q)
  have kk:KpF false [s.heap.objs.size,a.pl,a.ct,a.cp] s s₉:=((((((KpF.of k₁).trans (lift k₂)).trans (.of k₃)).trans (.of k₄)).trans (.of k₅)).trans (k₇.sub fun b hb=>.tail _ (List.mem_append_left [a.ct,a.cp] hb))).trans (.of k₉)
  exact kk.drop fun b hb hn=>by
   rcases List.mem_cons.mp hb with q |q
   ·rw[q];exact Yc _
   ·exact absurd q hn
theorem Xr.kpVol{a:LexA}{x:Str}{i:Nat}{h h':Heap}(La:Xr a x i h)(hs:Heap.SameBut a.dx h h')(hd:DxAt a h'):Xr a x i h':=by
 obtain⟨_,_,_,_,_,_,_,_,_,_,_,_,ed⟩:=La.dx
 have nd:∀{b:Addr} {o:Obj},h.get? b=some o→(∀es n,o.data≠.dict es n)→b≠a.dx:=fun{b o} e n1 q=>by rw[q,ed]at e;cases e;exact n1 _ _ rfl
 obtain⟨o8,t8,l8,r8⟩:=La.ct
 obtain⟨o9,l9,r9⟩:=La.cp
 obtain⟨t10,o10,l10,c10,n10,r10⟩:=La.pl
 refine La.step (fun b o hb hv e=>hs.extBut _ _ (fun q=>hv (by rw[q];exact .tail _ (.tail _ (.tail _ (.head _))))) e) ⟨o8,t8,hs.extBut _ _ (nd l8 fun _ _ q=>by rw[r8]at q;cases q) l8,r8⟩ ⟨o9,hs.extBut _ _ (nd l9 fun _ _ q=>by rw[r9]at q;cases q) l9,r9⟩ hd ⟨t10,o10,hs.extBut _ _ (nd l10 fun _ _ q=>by rw[r10]at q;cases q) l10,c10,n10,r10⟩
theorem XJ{a:LexA}{b:Addr}(h:b∈a.vol):b∈a.all:=by
 rcases mem4 h with rfl |rfl |rfl |rfl
 ·exact a.m_pl
 ·exact a.m_ct
 ·exact a.m_cp
 ·exact a.m_dx
section
variable{c:Cx}
theorem Up{n:PySem.Str}{np pos:Pos}{attr:PySem.Str}{a:LexA}{x:Str}{i:Nat}{p:PV}(hself:EvOk c (.Name n np) (.val (.ref a.lx)))(hL:∀s,c.St s→Xr a x i s.heap)
(hga:∀P:Params,findIn (KLx P) (.ref 240) attr=some none)(h:∀h1 h2 h3 h4 t1 t2 t3 t4 t5 t6 n,∃v,getL attr (Uy h1 h2 h3 h4 t1 t2 t3 t4 t5 t6 n (.ref a.st) (.ref a.pb))=some (some v)∧handedIn v=true∧∀s,c.St s→Rep c.V s.heap p v):EvOk c (.Attribute (.Name n np) attr pos) p:=
 KT (sx:=a.lx) (C:=240) (K:=KLx c.w.params) hself (fun s' st'=>Yz st'.1) (fun s' st'=>by
  have La:=hL s' st'
  obtain⟨h1,h2,h3,h4,t1,t2,t3,t4,t5,t6,n,m,e⟩:=La.dx
  obtain⟨v,e1,e2,e3⟩:=h h1 h2 h3 h4 t1 t2 t3 t4 t5 t6 n
  exact⟨_,_,v,⟨La.lx,rfl,rfl,e⟩,e1,e2,e3 s' st'⟩) (by kernel_rfl) (by kernel_rfl) (hga _)
end
noncomputable def rd(x:Str)(i:Nat):Str:=Str.sl x (some i) (some (i+1))
theorem Ky{w:World}{g:Nat→Obj}{a:LexA}{x:Str}{i:Nat}{A:Around}(hh:A.handled=none)(hdep:A.depth+2<recursionLimit){s:Shared}(B:Base w g s)(La:Xr a x i s.heap)(hx:x.length≤100000)(hi:i≤100000):
 codeAny (model pw w) A (.call (.ref 223) ⟨[.ref a.lx],[]⟩) (fun r s'=>match r with | .ok (.ret v)=>(∃t',v= .str (rd x i) t')∧Xr a x (i+1) s'.heap∧KpF false a.vol s s' | .ok _=>False | .error e=>False) s:=by
 have hclo:(fdOf (o223 w.params)).closure=[]:=by kernel_rfl
 obtain⟨L,hL⟩:∃L,L=s.heap.objs.size:=⟨_,rfl⟩
 have hLn:s.heap.get? L=none:=by rw[hL];exact Yc _
 have nL:∀{b:Addr},b∈a.all→b≠L:=fun hb q=>by
  obtain⟨o,e⟩:=La.live hb
  rw[q,hLn]at e;cases e
 have all9:∀b∈a.vol,439≤b:=fun b hb=>La.big b (XJ hb)
 have apL:∀{F:List Addr},(∀b∈F,b∈a.all)→Apart (callEnv (fdOf (o223 w.params)) L 223) F:=fun h=>Ks hclo fun m=>nL (h L m) rfl
 have hX:∀j,∀s₁ s':Shared,Xr a x j s₁.heap→KpF false [L] s₁ s'→Xr a x j s'.heap:=fun j s₁ s' La k=>La.kpf (fun b hb m=>nL hb (List.mem_singleton.mp m)) k
 have mk:∀j,∀s₁ s':Shared,Xr a x j s₁.heap→KpF false (L::(fdOf (o223 w.params)).closure.map (fun x:Str×Addr=>x.2)) s₁ s'→Xr a x j s'.heap:=fun j s₁ s' La k=>hX j s₁ s' La (by rw[hclo]at k;exact k)
 let Qf:Value→Shared→Prop:=fun v s'=>(∃t',v= .str (rd x i) t')∧Xr a x (i+1) s'.heap∧KpF false a.vol s s'
 refine enter_psC (Q:=Qf) (E:=fun _ _=>False) (V:=[]) (l:=false) (s₀:=s) (X:=fun s'=>Xr a x i s'.heap) (a:=223) (c':=222) (o:=o223 w.params) (oc:=o222 w.params) (cvs:=Xn (o222 w.params)) (ct:=2702) (fd:=fdOf (o223 w.params)) (body:=fdB (stM 21 1)) (ns:=["self"]) (ps:=[.val (.ref a.lx)]) (vs:=[.ref a.lx]) (by kernel_rfl) rfl (by kernel_rfl) (by kernel_rfl) (by kernel_rfl) rfl (by kernel_rfl) (by kernel_rfl) (by kernel_rfl) (fun M A E Q q=>by
  have e:bindArgs (fdOf (o223 w.params)) ⟨[.ref a.lx],[]⟩=pure ((["self"]:List Str).zip [.ref a.lx]):=by kernel_rfl
  rw[e];exact wpAny_pure q) (.refl s) hclo (by kernel_rfl) (by kernel_rfl) (by kernel_rfl) (by kernel_rfl) (by kernel_rfl) (by kernel_rfl) (by kernel_rfl) hh (by lia) B (fun b hb=>by cases hb) (Xl Xy XW) (by rw[←hL];exact hX i) La ?_
 rw[←hL]
 intro s₁ hX' k₁ st
 let e₁:Env:=callEnv (fdOf (o223 w.params)) L 223
 let A₁:Around:=A.deeper e₁
 let X₅:Shared→Prop:=fun s'=>Xr a x (i+1) s'.heap
 let c:Cx:=mkC w g A (fdOf (o223 w.params)) L 223 false [] (fun s'=>Xr a x i s'.heap) hX' hh (by kernel_rfl) (by kernel_rfl) (by kernel_rfl)
 let c₅:Cx:=c.ch X₅ (mk (i+1))
 let ρ₀:List (Str×PV):=[("self",.val (.ref a.lx))]
 let ρ₆:List (Str×PV):=("ch",.str (rd x i))::ρ₀
 have st:(c.wr ρ₀).St s₁:=st
 have go:=Xx st
 refine go _ _ _ ?_
 have hbody:fdB (stM 21 1)=fdB (stM 21 1):=rfl
 conv at hbody=>rhs;whnf
 rw[hbody]
 refine Zy st (.inl rfl) rfl (YN (by rfl) (by rfl) rfl (Xi (Up (a:=a) (x:=x) (i:=i) (p:=.val (.ref a.st)) (Xa rfl rfl rfl rfl) (fun s' st'=>st'.2.2) (fun P=>by kernel_rfl) fun h1 h2 h3 h4 t1 t2 t3 t4 t5 t6 n=>⟨.ref a.st,by kernel_rfl,rfl,fun _ _=>Xy⟩) st fun v₂ s₂ r₂ k₂ st₂ pl=> ?_))
 rw[Rep]at r₂
 subst r₂
 have La₂:Xr a x i s₂.heap:=st₂.2.2
 obtain⟨es,m5,hds,hrd⟩:=La₂.ds
 obtain⟨doc,pm,ctv,hf⟩:=La₂.f
 have Ist:InstAt s₂.heap a.st (instObj 240 a.ds) 240 (some (dictOf es m5)):=⟨La₂.st,rfl,rfl,hds⟩
 refine method_usual (Yz st₂.1) Ist (by kernel_rfl) (by kernel_rfl) (r:=none) (by kernel_rfl) rfl (get_value (v:=.ref a.f) (Yz st₂.1) Ist (by kernel_rfl) (findObj_own (by kernel_rfl) (attr:=none) (by kernel_rfl) rfl hrd) rfl ?_)
 have k₃:Kp false s₂ {s₂ with toks:=s₂.toks+1}:=.tok _
 have st₃:=st₂.kp k₃
 have FA:∀{s':Shared},Xr a x i s'.heap→FnAt a.f s'.heap:=fun La=>by
  obtain⟨_,_,_,e⟩:=La.f
  exact⟨_,_,_,_,e⟩
 have La₃:Xr a x i ({s₂ with toks:=s₂.toks+1}:Shared).heap:=st₃.2.2
 refine callWith_F (FA La₃) (spliced_cons (Xi (Xe (i:=1)) st₃ fun v₄ s₄ r₄ k₄ st₄=>spliced_nil ⟨FA st₄.2.2,?_⟩))
 rw[Rep]at r₄
 obtain⟨t₄,rfl⟩:=r₄
 refine wpAny_mono (read_ok (A:=A₁) (a:=a) (x:=x) (i:=i) hh (show A.depth+1+1<recursionLimit from dep2 hdep (by decide)) st₄.1 st₄.2.2 hx hi) (fun v s₅ q₅=> ?_) fun _ _ x=>x.elim
 obtain⟨⟨t₅,rfl⟩,La₅,k₅⟩:=q₅
 have sub5:∀b∈[a.pl,a.ct,a.cp],b∈a.all:=fun b hb=>XJ (List.mem_append_left [a.dx] hb)
 have st₅:(c₅.wr ρ₀).St s₅:=St.moveF (X:=X₅) (hX:=mk (i+1)) st₄ k₅ (by rfl) (fun b hb=>La.big b (sub5 b hb)) (apL sub5) (fun b hb=>La₅.live (sub5 b hb)) La₅
 have to₅:=XS (x:="ch") (p:=.str (rd x i)) (v:=.str (rd x i) t₅) st₅ (by rw[Rep];exact⟨_,rfl⟩) (.inl rfl)
 refine to₅ _ _ _ fun s₆ st₆ k₆=> ?_
 have st₆':(c₅.wr ρ₆).St s₆:=st₆
 have to₆:=Xx st₆'
 refine to₆ _ _ _ ?_
 have lift1:∀{b d:Shared},KpF false (e₁.locals::e₁.cells.map (·.2)) b d→KpF false (L::a.vol) b d:=fun k=>Yt hclo (.head _) k
 have kA:KpF false (L::a.vol) s s₆:=((((((KpF.of k₁).trans (.of k₂)).trans (.of k₃)).trans (.of k₄)).trans (k₅.sub fun b hb=>.tail _ (List.mem_append_left [a.dx] hb))).trans (lift1 k₆))
 have fin:∀{s':Shared},KpF false (L::a.vol) s s'→KpF false a.vol s s':=fun k=>k.drop fun b hb hn=>by
  rcases List.mem_cons.mp hb with q |q
  ·rw[q];exact hLn
  ·exact absurd q hn
 have ret:∀{s':Shared} (st':(c₅.wr ρ₆).St s'),KpF false (L::a.vol) s s'→∀(E:Value→Shared→Prop) (pos pos':Pos),wpAny (model pw w) (A₁) (execs [.Return (some (.Name "ch" pos)) pos'] e₁) (fun f s'=>Qf (UQ f) s') E s':=fun{s'} st' k E pos pos'=>by
  refine wpAny_execs_cons ?_
  rw[exec_Return_some]
  refine wpAny_bind (wpAny_standAt (wpAny_bind (Xi (Xa (pv:=.str (rd x i)) rfl rfl rfl rfl) st' fun v₉ s₉ r₉ k₉ st₉=>wpAny_pure ?_)))
  rw[Rep]at r₉
  exact(⟨r₉,st₉.2.2,fin (k.trans (.of k₉))⟩:_∧_∧_)
 refine Ye (b:=rd x i==Str.ofString "\n") st₆' (Xj (p:=.str (rd x i)) (q:=.str (Str.ofString "\n")) (Xa rfl rfl rfl rfl) XK ZX rfl) fun s₇ st₇ k₇=> ?_
 cases hb:rd x i==Str.ofString "\n" with
 |false=>exact wpAny_execs_nil (ret st₇ (kA.trans (.of k₇)) _ _ _)
 |true=>
  refine Xq (wpAny_AugAssign_AttributeAny (Xi (Xa (pv:=.val (.ref a.lx)) rfl rfl rfl rfl) st₇ fun v₈ s₈ r₈ k₈ st₈=> ?_))
  rw[Rep]at r₈
  subst r₈
  have La₈:Xr a x (i+1) s₈.heap:=st₈.2.2
  obtain⟨h1,h2,h3,h4,t1,t2,t3,t4,t5,t6,n,m,hdx⟩:=La₈.dx
  refine get_value (Yz st₈.1) ⟨La₈.lx,rfl,rfl,hdx⟩ (by kernel_rfl) (findObj_own (by kernel_rfl) (attr:=none) (by kernel_rfl) rfl (v:=.int n t5) rfl) rfl ?_
  have k₉:Kp false s₈ {s₈ with toks:=s₈.toks+1}:=.tok _
  have st₉:=st₈.kp k₉
  refine Xi (Xe (i:=1)) st₉ fun v₁₀ s₁₀ r₁₀ k₁₀ st₁₀=> ?_
  rw[Rep]at r₁₀
  obtain⟨t₁₀,rfl⟩:=r₁₀
  refine wpAny_iadd_int ?_
  have k₁₁:Kp false s₁₀ {s₁₀ with toks:=s₁₀.toks+1}:=.tok _
  have st₁₁:=st₁₀.kp k₁₁
  have La₁₁:Xr a x (i+1) ({s₁₀ with toks:=s₁₀.toks+1}:Shared).heap:=st₁₁.2.2
  obtain⟨h1,h2,h3,h4,t1,t2,t3,t4,t5,t6,n',m,hdx⟩:=La₁₁.dx
  have hz:∀t v,(putL "lineno" (PyData.keyHash w.params "lineno") (.str "lineno" t) v (Uy h1 h2 h3 h4 t1 t2 t3 t4 t5 t6 n' (.ref a.st) (.ref a.pb))).length≤1000:=fun t v=>Nat.le_of_ble_eq_true rfl
  refine UN (Yz st₁₁.1) (ox:=instObj 240 a.dx) (C:=240) ⟨La₁₁.lx,rfl,rfl,hdx⟩ rfl (by kernel_rfl) (by kernel_rfl) (by kernel_rfl) (by kernel_rfl) (by kernel_rfl) rfl (hz _ _) fun h' hs' hg=>⟨rfl,wpAny_execs_nil ?_⟩
  have La₁₂:Xr a x (i+1) h':=La₁₁.kpVol hs' ⟨h1,h2,h3,h4,t1,t2,t3,t4,s₁₀.toks,t6,n+1,_,hg⟩
  have k₁₂:KpF false [a.dx] {s₁₀ with toks:=s₁₀.toks+1} {s₁₀ with heap:=h',toks:=s₁₀.toks+1+2}:=⟨h',_,rfl,fun b o _ mm e=>hs'.extBut b o (fun q=>mm (by rw[q];exact List.mem_singleton.mpr rfl)) e⟩
  have sub1:∀b∈[a.dx],b∈a.all:=fun b hb=>XJ (List.mem_append_right [a.pl,a.ct,a.cp] hb)
  have st₁₂:(c₅.wr ρ₆).St {s₁₀ with heap:=h',toks:=s₁₀.toks+1+2}:=St.moveF (c:=c₅) (X:=X₅) (hX:=mk (i+1)) st₁₁ k₁₂ (by rfl) (fun b hb=>La.big b (sub1 b hb)) (apL sub1) (fun b hb=>La₁₂.live (sub1 b hb)) La₁₂
  exact ret st₁₂ ((((((kA.trans (.of k₇)).trans (.of k₈)).trans (.of k₉)).trans (.of k₁₀)).trans (.of k₁₁)).trans (k₁₂.sub fun b hb=>.tail _ (List.mem_append_right [a.pl,a.ct,a.cp] hb))) _ _ _
theorem readc_ok{w:World}{g:Nat→Obj}{a:LexA}{x:Str}{i:Nat}{A:Around}(hh:A.handled=none)(hdep:A.depth+2<recursionLimit){s:Shared}(B:Base w g s)(La:Xr a x i s.heap)(hx:x.length≤100000)(hi:i≤100000):
 wpAny (model pw w) A (PySem.call (.ref 223) [.ref a.lx]) (fun v s'=>(∃t',v= .str (rd x i) t')∧Xr a x (i+1) s'.heap∧KpF false a.vol s s') (fun _ _=>False) s:=wpAny_call (Ky hh hdep B La hx hi)
theorem wp_bound{w:World}{g:Nat→Obj}{A:Around}{E:Value→Shared→Prop}{s:Shared}{Q:Value→Shared→Prop}{a:LexA}{x:Str}{i:Nat}(B:Base w g s)(La:Xr a x i s.heap)
(h:∀b s',Kp false s s'→439≤b→s.heap.get? b=none→s'.heap.get? b=some (methodObj (.ref 223) (.ref a.lx))→Q (.ref b) s'):wpAny (model pw w) A (getAttr (.ref a.lx) "_read_char" true) Q E s:=by
 obtain⟨h1,h2,h3,h4,t1,t2,t3,t4,t5,t6,n,m,hdx⟩:=La.dx
 have I0:InstAt s.heap a.lx (instObj 240 a.dx) 240 (some (dictOf (Uy h1 h2 h3 h4 t1 t2 t3 t4 t5 t6 n (.ref a.st) (.ref a.pb)) m)):=⟨La.lx,rfl,rfl,hdx⟩
 refine get_bind (g:=.builtin "function.__get__") (a:=.ref 223) (Yz B) I0 (by kernel_rfl) (by kernel_rfl) (by kernel_rfl) (wpAny_call (fn_get (s:={s with toks:=s.toks+1}) (Yz B) (by kernel_rfl) (handed_on rfl (h _ _ ?_ B.size (Yc _) (Heap.get?_push_size _ rfl)))))
 exact⟨_,_,rfl,fun b o _ e=>Heap.get?_push_of_some _ e⟩
theorem iter_args(a b:Value):argsOk "iter" ⟨[a,b],[]⟩:=by unfold argsOk;kernel_rfl
theorem call_iter2{w:World}{A:Around}{E:Value→Shared→Prop}{s:Shared}{Q:Value→Shared→Prop}{b:Addr}{f self:Value}{e:Str}{te:Tok}(hb:s.heap.get? b=some (methodObj f self))
(h:Q (.ref s.heap.objs.size) {s with heap:=s.heap.push {cls:=.type "callable_iterator",data:=.fields #[.ref b,.str e te,.bool false]}}):wpAny (model pw w) A (PySem.call (.builtin "iter") [.ref b,.str e te]) Q E s:=by
 refine call_function_entry (by decide +kernel) (by decide +kernel) kdk_entry_iter (iter_args _ _) ?_
 unfold Builtin.«iter»
 refine wpAny_bind (m:=someArgs "iter" 1 2 _) (wpAny_of_eq (a:=[Value.ref b,.str e te]) (by first |rfl |kernel_rfl!) ?_)
 have hc:typeLookup (.type "method") "__call__"=pure (some (.builtin "method.__call__")):=by rw[typeLookup_type,builtinLookup_eq_fast];kernel_rfl
 have hT:s.TypeIs (.ref b) "method":=⟨_,hb,rfl⟩
 dsimp only
 unfold specialOf
 refine wpAny_bind (wpAny_bind (wpAny_typeOf hT ?_))
 rw[hc]
 refine wpAny_pure ?_
 show wpAny _ _ (rule "iter.sentinel" >>= _) _ _ _
 refine wpAny_bind (wpAny_rule (wpAny_bind ?_))
 unfold newFields
 exact wpAny_newObj_type (wpAny_pure ⟨_,rfl,h⟩) (by size_fits)
theorem iter_self{w:World}{A:Around}{E:Value→Shared→Prop}{s:Shared}{Q:Value→Shared→Prop}{I:Addr}{v:Array Value}(hI:s.heap.get? I=some {cls:=.type "callable_iterator",data:=.fields v})(h:Q (.ref I) s):wpAny (model pw w) A (pyIter (.ref I)) Q E s:=by
 have hT:s.TypeIs (.ref I) "callable_iterator":=⟨_,hI,rfl⟩
 refine wpAny_pyIter_slot hT ci_slot_iter (wpAny_call_entry ci_slot_iter hT ci_entry_iter ?_ (ci_args_iter _))
 unfold Builtin.«dict_keyiterator.__iter__»
 refine wpAny_bind (wpAny_of_eq (a:=(Value.ref I,[])) (by kernel_rfl) ?_)
 exact wpAny_pure ⟨_,rfl,"callable_iterator",_,hT,VB.lookup,h⟩
noncomputable def wsC(c:Nat):Bool:=Txt.contains wsS (one c)
inductive STo(stop:Nat→Bool):List Nat→Str→Str→List Nat→Prop
 |stop {c:Nat} {r:List Nat} {t:Str} (h:stop c=true):STo stop (c::r) t t r
 |esc {d:Nat} {r:List Nat} {t t':Str} {r':List Nat} (h:STo stop r (t++one d) t' r'):STo stop (92::d::r) t t' r'
 |lit {c:Nat} {r:List Nat} {t t':Str} {r':List Nat} (h1:stop c=false) (h2:c≠92) (h:STo stop r (t++one c) t' r'):STo stop (c::r) t t' r'
inductive TTo:List Nat→Str→List Nat→Prop
 |fin:TTo [] ⟨#[]⟩ []
 |ws {c:Nat} {r:List Nat} {t:Str} {r':List Nat} (h1:wsC c=true) (h:TTo r t r'):TTo (c::r) t r'
 |quo {r:List Nat} {t:Str} {r':List Nat} (h:STo (· ==34) r ⟨#[]⟩ t r'):TTo (34::r) t r'
 |lit {c:Nat} {r:List Nat} {t:Str} {r':List Nat} (h1:wsC c=false) (h2:c≠34) (h3:c≠92) (h:STo wsC r (one c) t r'):TTo (c::r) t r'
theorem Kl{x:Str}{i c:Nat}{r:List Nat}(h:x.cps.toList.drop i=c::r):rd x i=one c∧x.cps.toList.drop (i+1)=r∧i<x.length:=by
 have hl:x.cps.toList.length=x.length:=Array.length_toList
 have hlt:i<x.cps.toList.length:=by
  rcases Nat.lt_or_ge i x.cps.toList.length with q |q
  ·exact q
  ·rw[List.drop_of_length_le q]at h;cases h
 refine⟨?_,?_,by lia⟩
 ·unfold rd Str.sl sl one
  simp only[Option.getD_some,h]
  rw[show i+1-i=1 by lia]
  rfl
 ·have:=congrArg (List.drop 1) h
  rw[List.drop_drop]at this
  simpa using this
theorem rd_nil{x:Str}{i:Nat}(h:x.cps.toList.drop i=[]):rd x i=⟨#[]⟩∧x.cps.toList.drop (i+1)=[]:=by
 refine⟨?_,?_⟩
 ·unfold rd Str.sl sl
  simp only[Option.getD_some,h,List.take_nil]
 ·have:=congrArg (List.drop 1) h
  rw[List.drop_drop]at this
  simpa using this
section
variable{c:Cx}
theorem KZ{x y:Str}{px py pos:Pos}{t u:Str}{ρ:List (Str×PV)}{s:Shared}{Q:Flow→Shared→Prop}{E:Value→Shared→Prop}(hs:(c.wr ρ).St s)(hx:ρ.lookup x=some (.str t))(hk:c.env.kindOf x=some .local)(hy:EvOk (c.wr ρ) (.Name y py) (.str u))(hsz:t.length+u.length≤sizeLine)
(h:∀s',(c.wr ((x,.str (t++u))::ρ)).St s'→KpF c.lam c.fr s s'→Q .next s'):wpAny (model pw (c.wr ρ).w) (c.wr ρ).A (exec (.AugAssign (.Name x px) .Add (.Name y py) pos) (c.wr ρ).env) Q E s:=by
 obtain⟨m,hn,hm⟩:=hs.2.1.ns
 obtain⟨v,hv,hr⟩:=hm x _ hx hk
 rw[Rep]at hr
 obtain⟨tk,rfl⟩:=hr
 refine wpAny_AugAssign_Name (wpAny_loadName_local c.kind hk hn hv (Xi hy hs fun u₁ s₁ r₁ k₁ st₁=> ?_))
 rw[Rep]at r₁
 obtain⟨tk',rfl⟩:=r₁
 refine SB.iadd (fun t' k=> ?_) hsz
 have k₂:Kp c.lam s₁ {s₁ with toks:=k}:=.tok _
 exact Zj (c:=c.wr ρ) (p:=.str (t++u)) (st₁.kp k₂) (by rw[Rep];exact⟨_,rfl⟩) (.inl hk) fun s₃ st₃ k₃=>h s₃ st₃ (((KpF.of k₁).trans (.of k₂)).trans k₃)
end
noncomputable def XT(a:LexA)(x:Str)(I b:Addr)(te:Tok)(i:Nat)(s:Shared):Prop:=Xr a x i s.heap∧s.heap.get? I=some {cls:=.type "callable_iterator",data:=.fields #[.ref b,.str ⟨#[]⟩ te,.bool false]}∧s.heap.get? b=some (methodObj (.ref 223) (.ref a.lx))
structure GT(a:LexA)(L I b:Addr):Prop where
 big:∀y∈a.all,439≤y
 nL:∀y∈a.all,y≠L
 IL:I≠L
 bL:b≠L
 L9:439≤L
 I9:439≤I
 Ia:I∉a.all
 ba:b∉a.all
theorem Zw(P:Params):(fdOf (o230 P)).closure=[]:=by kernel_rfl
theorem Wx{a:LexA}{x:Str}{L I b:Addr}{te:Tok}(P:Params)(G:GT a L I b)(i:Nat):∀s₁ s',XT a x I b te i s₁→KpF false (L::(fdOf (o230 P)).closure.map (fun x:Str×Addr=>x.2)) s₁ s'→XT a x I b te i s':=fun s₁ s' X k=>by
 rw[Zw]at k
 exact⟨X.1.kpf (fun y hy m=>G.nL y hy (List.mem_singleton.mp m)) k,k.get0 (fun m=>G.IL (List.mem_singleton.mp m)) X.2.1,k.get0 (fun m=>G.bL (List.mem_singleton.mp m)) X.2.2⟩
theorem gl_hX{a:LexA}{x:Str}{L I b:Addr}(P:Params)(G:GT a L I b)(i:Nat):∀s₁ s':Shared,Xr a x i s₁.heap→KpF false (L::(fdOf (o230 P)).closure.map (fun x:Str×Addr=>x.2)) s₁ s'→Xr a x i s'.heap:=fun s₁ s' X k=>by
 rw[Zw]at k
 exact X.kpf (fun y hy m=>G.nL y hy (List.mem_singleton.mp m)) k
noncomputable abbrev gtCx(w:World)(g:Nat→Obj)(A:Around)(a:LexA)(x:Str)(L I b:Addr)(te:Tok)(G:GT a L I b)(hh:A.handled=none)(i:Nat):Cx:=mkC w g A (fdOf (o230 w.params)) L 230 false [] (XT a x I b te i) (Wx w.params G i) hh (by kernel_rfl) (by kernel_rfl) (by kernel_rfl)
noncomputable abbrev glCx(w:World)(g:Nat→Obj)(A:Around)(a:LexA)(x:Str)(L I b:Addr)(G:GT a L I b)(hh:A.handled=none)(i:Nat):Cx:=mkC w g A (fdOf (o230 w.params)) L 230 false [] (fun s=>Xr a x i s.heap) (gl_hX w.params G i) hh (by kernel_rfl) (by kernel_rfl) (by kernel_rfl)
section
variable{w:World}{g:Nat→Obj}{A:Around}{a:LexA}{x:Str}{L I b:Addr}{te:Tok}{G:GT a L I b}{hh:A.handled=none}{i:Nat}
theorem gt_apart{F:List Addr}(P:Params)(G:GT a L I b)(hF:∀y∈F,y∈a.all∨y=I):Apart (callEnv (fdOf (o230 P)) L 230) F:=Ks (Zw P) fun m=>by
 rcases hF L m with q |q
 ·exact G.nL L q rfl
 ·exact G.IL q.symm
theorem Vx{ρ:List (Str×PV)}{s s':Shared}(st:((gtCx w g A a x L I b te G hh i).wr ρ).St s)(hfl:(ρ.all fun x=>flat x.2)=true)(k:KpF false a.vol s s')(La:Xr a x (i+1) s'.heap):((gtCx w g A a x L I b te G hh (i+1)).wr ρ).St s':=by
 have X:XT a x I b te i s:=st.2.2
 have ap:Apart (callEnv (fdOf (o230 w.params)) L 230) a.vol:=gt_apart w.params G fun y hy=>.inl (XJ hy)
 have x':XT a x I b te (i+1) s':=⟨La,k.get0 (fun m=>G.Ia (XJ m)) X.2.1,k.get0 (fun m=>G.ba (XJ m)) X.2.2⟩
 have h1:=St.moveF (X:=XT a x I b te (i+1)) (hX:=Wx w.params G (i+1)) st k hfl (fun y hy=>G.big y (XJ hy)) ap (fun y hy=>La.live (XJ hy)) x'
 exact h1
theorem UE{ρ:List (Str×PV)}{s:Shared}(st:((gtCx w g A a x L I b te G hh i).wr ρ).St s):Kd s.heap I b 223 (.ref a.lx) ⟨#[]⟩ te:=by
 have X:XT a x I b te i s:=st.2.2
 exact⟨X.2.1,⟨_,_,X.2.2,rfl,rfl,rfl,rfl⟩,⟨o223 w.params,fdOf (o223 w.params),st.1.1 223 _ rfl (by kernel_rfl),by kernel_rfl⟩⟩
theorem gt_next{ρ:List (Str×PV)}{s:Shared}{c:Nat}{r:List Nat}{E:Value→Shared→Prop}(st:((gtCx w g A a x L I b te G hh i).wr ρ).St s)(hfl:(ρ.all fun x=>flat x.2)=true)(hdep:A.depth+3<recursionLimit)(hx:x.length≤100000)(hd:x.cps.toList.drop i=c::r):
 wpAny (model pw w) (A.deeper (callEnv (fdOf (o230 w.params)) L 230)) (pyNext (.ref I)) (fun v s'=>(∃t,v=some (.str (one c) t))∧((gtCx w g A a x L I b te G hh (i+1)).wr ρ).St s'∧KpF false a.vol s s') E s:=by
 obtain⟨e1,e2,e3⟩:=Kl hd
 have X:XT a x I b te i s:=st.2.2
 refine next_call hh (UE st) (wpAny_call (method_call X.2.2 (codeAny_mono (Ky (A:=(A.deeper (callEnv (fdOf (o230 w.params)) L 230)).in1) hh (show A.depth+1+2<recursionLimit from dep2 hdep (by decide)) st.1 X.1 hx (by lia)) fun r s' q=> ?_)))
 rcases r with e | (v |_ |_ |_)<;>first |exact q.elim |skip
 obtain⟨⟨t,rfl⟩,La,k⟩:=q
 have st':=Vx st hfl k La
 refine⟨rd x i,t,rfl,UE st',?_⟩
 rw[e1,if_neg (fun q=>by
  have:=congrArg Str.length q
  exact absurd this (by show ¬(0=1);decide))]
 exact⟨⟨t,rfl⟩,st',k⟩
theorem gt_end{ρ:List (Str×PV)}{s:Shared}{E:Value→Shared→Prop}(st:((gtCx w g A a x L I b te G hh i).wr ρ).St s)(hfl:(ρ.all fun x=>flat x.2)=true)(hdep:A.depth+3<recursionLimit)(hx:x.length≤100000)(hi:i≤100000)(hd:x.cps.toList.drop i=[]):
 wpAny (model pw w) (A.deeper (callEnv (fdOf (o230 w.params)) L 230)) (pyNext (.ref I)) (fun v s'=>v=none∧((glCx w g A a x L I b G hh (i+1)).wr ρ).St s'∧KpF false (I::a.vol) s s') E s:=by
 obtain⟨e1,e2⟩:=rd_nil hd
 have X:XT a x I b te i s:=st.2.2
 refine next_call hh (UE st) (wpAny_call (method_call X.2.2 (codeAny_mono (Ky (A:=(A.deeper (callEnv (fdOf (o230 w.params)) L 230)).in1) hh (show A.depth+1+2<recursionLimit from dep2 hdep (by decide)) st.1 X.1 hx hi) fun r s' q=> ?_)))
 rcases r with e | (v |_ |_ |_)<;>first |exact q.elim |skip
 obtain⟨⟨t,rfl⟩,La,k⟩:=q
 have st':=Vx st hfl k La
 refine⟨rd x i,t,rfl,UE st',?_⟩
 rw[e1,if_pos rfl]
 intro h' hx'
 have k2:KpF false [I] s' {s' with heap:=h'}:=⟨h',s'.toks,rfl,fun y o _ m e=>hx' y o (fun q=>m (by rw[q];exact List.mem_singleton.mpr rfl)) e⟩
 have La2:Xr a x (i+1) h':=La.at fun y o hy _ e=>hx' y o (fun q=>G.Ia (q▸hy)) e
 have sub:∀y∈[I],y∈a.all∨y=I:=fun y hy=>.inr (List.mem_singleton.mp hy)
 have ap:Apart (callEnv (fdOf (o230 w.params)) L 230) [I]:=gt_apart w.params G sub
 have st2:=St.moveV (X:=fun s=>Xr a x (i+1) s.heap) (hX:=gl_hX w.params G (i+1)) st' k2 hfl (fun y hy=>by rw[List.mem_singleton]at hy;rw[hy];exact G.I9) ap (fun y _ hy=>by cases hy) La2
 exact⟨rfl,st2,(k.sub fun y hy=>.tail _ hy).trans (k2.sub fun y hy=>by rw[List.mem_singleton]at hy;rw[hy];exact .head _)⟩
end
theorem one_beq(c d:Nat):(one c==one d)=(c==d):=by
 rw[Bool.eq_iff_iff,beq_iff_eq,beq_iff_eq]
 exact⟨fun h=>(List.cons.inj (congrArg (fun s:Str=>s.cps.toList) h)).1,congrArg one⟩
inductive SCo(stop:Nat→Bool)(c:Nat)(r:List Nat)(t t':Str)(r':List Nat):Prop
 |stop (h:stop c=true) (e:t'=t) (k:r'=r)
 |esc (h:stop c=false) (e:(c==92)=true) (d:Nat) (r2:List Nat) (k:r=d::r2) (q:STo stop r2 (t++one d) t' r')
 |lit (h:stop c=false) (e:(c==92)=false) (q:STo stop r (t++one c) t' r')
theorem STo.cons_inv{stop:Nat→Bool}{c:Nat}{r:List Nat}{t t':Str}{r':List Nat}(h:STo stop (c::r) t t' r')(h92:stop 92=false):SCo stop c r t t' r':=by
 cases h with
 |stop h=>exact .stop h rfl rfl
 |esc h=>exact .esc h92 rfl _ _ rfl h
 |lit h1 h2 h=>exact .lit h1 (beq_eq_false_iff_ne.mpr h2) h
theorem grow{a r n:Nat}(h:a+(r+1)≤n):a+1+r≤n:=Nat.le_trans (Nat.le_of_eq (Nat.succ_add_eq_add_succ a r)) h
section
variable{w:World}{g:Nat→Obj}{A:Around}{a:LexA}{x:Str}{L I b:Addr}{te:Tok}{G:GT a L I b}{hh:A.handled=none}{i:Nat}
theorem wp_readch{ρ:List (Str×PV)}{s:Shared}{d:Nat}{r:List Nat}{Q:Flow→Shared→Prop}{E:Value→Shared→Prop}{p1 p2 p3 p4 p5:Pos}(st:((gtCx w g A a x L I b te G hh i).wr ρ).St s)(hfl:(ρ.all fun x=>flat x.2)=true)(hself:ρ.lookup (Str.ofString "self")=some (PV.val (.ref a.lx)))(hdep:A.depth+3<recursionLimit)(hx:x.length≤100000)(hd:x.cps.toList.drop i=d::r)
(hl:(p3.endLine==p4.line)=true)(hsw:swapsWith (.Call (.Attribute (.Name "self" p2) "_read_char" p3) [] [] p4) (some (.Name "ch" p1)) p5.line (callEnv (fdOf (o230 w.params)) L 230)=pure false)
(h:∀s',((gtCx w g A a x L I b te G hh (i+1)).wr (("ch",.str (one d))::ρ)).St s'→KpF false (L::a.vol) s s'→Q .next s'):
 wpAny (model pw w) (A.deeper (callEnv (fdOf (o230 w.params)) L 230)) (exec (.Assign [.Name "ch" p1] (.Call (.Attribute (.Name "self" p2) "_read_char" p3) [] [] p4) p5) (callEnv (fdOf (o230 w.params)) L 230)) Q E s:=by
 obtain⟨e1,e2,e3⟩:=Kl hd
 rw[exec_Assign_Name _ _ _ _ _ hsw]
 refine wpAny_bind (wpAny_standAt (wpAny_bind (YN (by rfl) (by rfl) hl (Xi (c:=(gtCx w g A a x L I b te G hh i).wr ρ) (Xa hself rfl rfl rfl) st fun v s₁ r₁ k₁ st₁ pl=> ?_))))
 rw[Rep]at r₁
 subst r₁
 have X:XT a x I b te i s₁:=st₁.2.2
 obtain⟨h1,h2,h3,h4,t1,t2,t3,t4,t5,t6,n,m,hdx⟩:=X.1.dx
 have I0:InstAt s₁.heap a.lx (instObj 240 a.dx) 240 (some (dictOf (Uy h1 h2 h3 h4 t1 t2 t3 t4 t5 t6 n (.ref a.st) (.ref a.pb)) m)):=⟨X.1.lx,rfl,rfl,hdx⟩
 refine method_fn (f:=223) (Yz st₁.1) I0 (by kernel_rfl) (by kernel_rfl) (by kernel_rfl) (by kernel_rfl) (by kernel_rfl) ?_
 refine callWith_K0 (Yz st₁.1) (by kernel_rfl) (wpAny_mono (readc_ok (A:=A.deeper (callEnv (fdOf (o230 w.params)) L 230)) hh (show A.depth+1+2<recursionLimit from dep2 hdep (by decide)) st₁.1 X.1 hx (by lia)) (fun v s₂ q=> ?_) fun _ _ x=>x.elim)
 obtain⟨⟨t,rfl⟩,La,k₂⟩:=q
 have st₂:=Vx st₁ hfl k₂ La
 rw[e1]
 have to₂:=XS (x:="ch") (p:=.str (one d)) (v:=.str (one d) t) st₂ (by rw[Rep];exact⟨_,rfl⟩) (.inl rfl)
 refine wpAny_bind (wpAny_standAt (wpAny_bind (wpAny_bindName (to₂ _ _ _ fun s₃ st₃ k₃=>wpAny_pure (h s₃ st₃ ?_)))))
 exact((KpF.of k₁).trans (k₂.sub fun y hy=>.tail _ hy)).trans (Yt (Zw _) (.head _) k₃)
theorem Wb{p1 p2 p4:Pos}{k:Nat}(j:Nat)(ρ:List (Str×PV))(c:Nat)(h1:ρ.lookup (Str.ofString "ch")=some (.str (one c))):XE ((gtCx w g A a x L I b te G hh j).wr ρ) (.Compare (.Name "ch" p1) [.Eq] [.Constant (.str "\\") k p2] p4) (c==92):=
 Xk (Xj (p:=.str (one c)) (q:=.str (Str.ofString "\\")) (Xa h1 rfl rfl rfl) XK ZX rfl) (by rw[show Str.ofString "\\"=one 92 by kernel_rfl,one_beq])
theorem wp_toX{c':Cx}{s:Shared}(_:c'.St s)(b:Stmt)(Q:Flow→Shared→Prop)(E:Value→Shared→Prop)(h:wpAny (model pw c'.w) c'.A (exec b c'.env) Q E s):wpAny (model pw c'.w) c'.A (exec b c'.env) Q E s:=h
theorem loopS{stop:Nat→Bool}{test:PySem.Expr}{p1 p2 p3 p4 p5 p6 p7 p8 p9 p10 p11 p12 p13 p14 p15 p16 p17 p18:Pos}{kb:Nat}{t':Str}{r':List Nat}{E:Value→Shared→Prop}(hs92:stop 92=false)(htest:∀(j:Nat) (ρ:List (Str×PV)) (c:Nat),ρ.lookup (Str.ofString "ch")=some (.str (one c))→ρ.lookup (Str.ofString "self")=some (PV.val (.ref a.lx))→XE ((gtCx w g A a x L I b te G hh j).wr ρ) test (stop c))
(hl:(p10.endLine==p11.line)=true)(hsw:swapsWith (.Call (.Attribute (.Name "self" p9) "_read_char" p10) [] [] p11) (some (.Name "ch" p8)) p12.line (callEnv (fdOf (o230 w.params)) L 230)=pure false)
(hdep:A.depth+3<recursionLimit)(hx:x.length≤50000){s:Shared}{rest:List Nat}{tok:Str}{i:Nat}(hd:x.cps.toList.drop i=rest)(hq:STo stop rest tok t' r')(hlen:tok.length+rest.length≤100000){ρ:List (Str×PV)}(st:((gtCx w g A a x L I b te G hh i).wr ρ).St s)(hsub:Sub [("token",.str tok),("fiter",.val (.ref I)),("self",.val (.ref a.lx))] ρ):
 wpAny (model pw w) (A.deeper (callEnv (fdOf (o230 w.params)) L 230)) (exec (.For (.Name "ch" p1) (.Name "fiter" p2) [.If test [.Return (some (.Name "token" p3)) p4] [.If (.Compare (.Name "ch" p5) [.Eq] [.Constant (.str "\\") kb p6] p7) [.Assign [.Name "ch" p8] (.Call (.Attribute (.Name "self" p9) "_read_char" p10) [] [] p11) p12] [] p13] p14,.AugAssign (.Name "token" p15) .Add (.Name "ch" p16) p17] [] p18) (callEnv (fdOf (o230 w.params)) L 230))
  (fun f s'=>(∃tk,f= .ret (.str t' tk))∧(∃j,j≤x.length∧x.cps.toList.drop j=r'∧Xr a x j s'.heap)∧KpF false (L::a.vol) s s') E s:=by
 refine ZK fun Q hQ=> ?_
 let e₁:Env:=callEnv (fdOf (o230 w.params)) L 230
 let A₁:Around:=A.deeper e₁
 let cG (n:Nat):Cx:=gtCx w g A a x L I b te G hh n
 let ρ₀:List (Str×PV):=[("fiter",.val (.ref I)),("self",.val (.ref a.lx))]
 let J:Nat→Shared→Prop:=fun n s'=>∃rest i tok,rest.length=n∧x.cps.toList.drop i=rest∧STo stop rest tok t' r'∧tok.length+rest.length≤100000∧((cG i).wr (("token",.str tok)::ρ₀)).St s'∧KpF false (L::a.vol) s s'
 have st0:((cG i).wr (("token",.str tok)::ρ₀)).St s:=st.sub hsub
 have go:=wp_toX st0
 refine go _ _ _ ?_
 refine wpAny_For (Xi (c:=(cG i).wr _) (Xa (pv:=.val (.ref I)) rfl rfl rfl rfl) st0 fun v s₁ r₁ k₁ st₁=> ?_) (fun _=>rfl)
 rw[Rep]at r₁
 subst r₁
 have X₁:XT a x I b te i s₁:=st₁.2.2
 refine iter_self X₁.2.1 ?_
 refine codeAny_forLoop_any J ?_ rest.length ⟨rest,i,tok,rfl,hd,hq,hlen,st₁,.of k₁⟩
 rintro n s' ⟨rest,i,tok,rfl,hd,hq,hlen,st,k⟩
 have big:∀n:Nat,n≤200000→n≤sizeLine:=fun n h=>Nat.le_trans h (by decide +kernel)
 refine ZK fun Q₂ hQ₂=> ?_
 cases rest with
 |nil=>cases hq
 |cons c r=>
  have hd1:=(Kl hd).2.1
  refine wpAny_mono (gt_next st rfl hdep (Nat.le_trans hx (by decide)) hd) (fun v s₁ q=>hQ₂ _ _ ?_) fun _ _ x=>x
  obtain⟨⟨t,rfl⟩,st₁,k₁⟩:=q
  have to₁:=XS (x:="ch") (p:=.str (one c)) (v:=.str (one c) t) st₁ (by rw[Rep];exact⟨_,rfl⟩) (.inl rfl)
  refine wpAny_pure (wpAny_assign_Name (to₁ _ _ _ fun s₂ st₂ k₂=> ?_))
  have k₂:KpF false (L::a.vol) s s₂:=(k.trans (k₁.sub fun y hy=>.tail _ hy)).trans (Yt (Zw _) (.head _) k₂)
  let cc:Cx:=(cG (i+1)).wr (("ch",.str (one c))::("token",.str tok)::ρ₀)
  have st₂:cc.St s₂:=st₂
  cases hq.cons_inv hs92 with
  |stop hst e k9=>
   refine Ye (c:=cc) (b:=true) st₂ (Xk (htest _ _ c rfl rfl) hst) fun s₃ st₃ k₃=> ?_
   refine wpAny_execs_cons ?_
   rw[exec_Return_some]
   refine wpAny_bind (wpAny_standAt (wpAny_bind (Xi (c:=cc) (Xa (pv:=.str tok) rfl rfl rfl rfl) st₃ fun v₄ s₄ r₄ k₄ st₄=>wpAny_pure ?_)))
   rw[Rep]at r₄
   obtain⟨tk,rfl⟩:=r₄
   have X₄:XT a x I b te (i+1) s₄:=st₄.2.2
   exact hQ _ _ ⟨⟨tk,by rw[e]⟩,⟨i+1,(Kl hd).2.2,hd1.trans k9.symm,X₄.1⟩,(k₂.trans (.of k₃)).trans (.of k₄)⟩
  |esc hst e d r2 k9 h=>
   refine Ye (c:=cc) (b:=false) st₂ (Xk (htest _ _ c rfl rfl) hst) fun s₃ st₃ k₃=> ?_
   refine Ye (c:=cc) (b:=true) st₃ (Xk (Wb _ _ c rfl) e) fun s₄ st₄ k₄=> ?_
   refine Xq (c:=cc) (wp_readch st₄ rfl rfl hdep (Nat.le_trans hx (by decide)) (hd1.trans k9) hl hsw fun s₅ st₅ k₅=>⟨rfl,wpAny_execs_nil (wpAny_execs_nil ?_)⟩)
   refine Xq (c:=(cG (i+1+1)).wr _) (KZ (t:=tok) (u:=one d) st₅ rfl rfl (Xa rfl rfl rfl rfl) (big _ (Nat.le_trans (Nat.add_le_add_left (Nat.succ_pos _) _) (Nat.le_trans hlen (by decide)))) fun s₆ st₆ k₆=>⟨rfl,wpAny_execs_nil ?_⟩)
   rw[k9]at hlen ⊢
   exact⟨r2.length,Nat.lt_succ_of_lt (Nat.lt_succ_self _),r2,i+1+1,tok++one d,rfl,(Kl (hd1.trans k9)).2.1,h,by rw[Km];exact grow (Nat.le_of_succ_le hlen),st₆.sub (Yf fun p hp=>by
    rcases mem3 hp with rfl |rfl |rfl<;>rfl),(((k₂.trans (.of k₃)).trans (.of k₄)).trans k₅).trans (Yt (Zw _) (.head _) k₆)⟩
  |lit hst e h=>
   refine Ye (c:=cc) (b:=false) st₂ (Xk (htest _ _ c rfl rfl) hst) fun s₃ st₃ k₃=> ?_
   refine Ye (c:=cc) (b:=false) st₃ (Xk (Wb _ _ c rfl) e) fun s₄ st₄ k₄=> ?_
   refine wpAny_execs_nil (wpAny_execs_nil ?_)
   refine Xq (c:=cc) (KZ (t:=tok) (u:=one c) st₄ rfl rfl (Xa rfl rfl rfl rfl) (big _ (Nat.le_trans (Nat.add_le_add_left (Nat.succ_pos _) _) (Nat.le_trans hlen (by decide)))) fun s₆ st₆ k₆=>⟨rfl,wpAny_execs_nil ?_⟩)
   exact⟨r.length,Nat.lt_succ_self _,r,i+1,tok++one c,rfl,hd1,h,by rw[Km];exact grow hlen,st₆.sub (Yf fun p hp=>by
    rcases mem3 hp with rfl |rfl |rfl<;>rfl),((k₂.trans (.of k₃)).trans (.of k₄)).trans (Yt (Zw _) (.head _) k₆)⟩
theorem Uz{p1 p2 p3 p4:Pos}(j:Nat)(ρ:List (Str×PV))(c:Nat)(h1:ρ.lookup (Str.ofString "ch")=some (.str (one c)))(h2:ρ.lookup (Str.ofString "self")=some (PV.val (.ref a.lx))):XE ((gtCx w g A a x L I b te G hh j).wr ρ) (.Compare (.Name "ch" p1) [.In] [.Attribute (.Name "self" p2) "whitespace" p3] p4) (wsC c):=
 Xj (p:=.str (one c)) (q:=.str wsS) (Xa h1 rfl rfl rfl) (Up (a:=a) (x:=x) (i:=j) (Xa h2 rfl rfl rfl) (fun s' st'=>by
  have X:XT a x I b te j s':=st'.2.2
  exact X.1) (fun P=>by kernel_rfl) fun h1 h2 h3 h4 t1 t2 t3 t4 t5 t6 n=>⟨.str wsS t6,by kernel_rfl,rfl,fun _ _=>by rw[Rep];exact⟨_,rfl⟩⟩) cmp_in_str rfl
theorem VU{p1 p2 p4:Pos}{k:Nat}(j:Nat)(ρ:List (Str×PV))(c:Nat)(h1:ρ.lookup (Str.ofString "ch")=some (.str (one c)))(h2:ρ.lookup (Str.ofString "self")=some (PV.val (.ref a.lx))):XE ((gtCx w g A a x L I b te G hh j).wr ρ) (.Compare (.Name "ch" p1) [.Eq] [.Constant (.str "\"") k p2] p4) (c==34):=
 Xk (Xj (p:=.str (one c)) (q:=.str (Str.ofString "\"")) (Xa h1 rfl rfl rfl) XK ZX rfl) (by rw[show Str.ofString "\""=one 34 by kernel_rfl,one_beq])
end
theorem TTo.nil_inv{t:Str}{r':List Nat}(h:TTo [] t r'):t=⟨#[]⟩∧r'=[]:=by
 cases h with
 |fin=>exact⟨rfl,rfl⟩
inductive TCo(c:Nat)(r:List Nat)(t:Str)(r':List Nat):Prop
 |ws (h:wsC c=true) (k:TTo r t r')
 |quo (h:wsC c=false) (e:(c==34)=true) (k:STo (· ==34) r ⟨#[]⟩ t r')
 |lit (h:wsC c=false) (e:(c==34)=false) (b:(c==92)=false) (k:STo wsC r (one c) t r')
theorem TTo.cons_inv{c:Nat}{r:List Nat}{t:Str}{r':List Nat}(h:TTo (c::r) t r'):TCo c r t r':=by
 cases h with
 |ws h1 h=>exact .ws h1 h
 |quo h=>exact .quo (by decide +kernel) rfl h
 |lit h1 h2 h3 h=>exact .lit h1 (beq_eq_false_iff_ne.mpr h2) (beq_eq_false_iff_ne.mpr h3) h
theorem truth_nil{c:Cx}:UJ c (.lst []) false:=fun s v hs hr=>by
 rw[Rep]at hr
 obtain⟨a,vs,rfl,_,hl,hv⟩:=hr
 obtain rfl:vs=#[]:=Array.toList_eq_nil_iff.mp (Yh hv)
 exact wpAny_truthy_list hl.isList (by decide) ⟨rfl,.tok _⟩
theorem gettok_ok{w:World}{g:Nat→Obj}{a:LexA}{x:Str}{i:Nat}{t:Str}{r':List Nat}{A:Around}(hh:A.handled=none)(hdep:A.depth+3<recursionLimit){s:Shared}(B:Base w g s)(La:Xr a x i s.heap)(hx:x.length≤50000)(hi:i≤x.length+1)(hT:TTo (x.cps.toList.drop i) t r'):
 wpAny (model pw w) A (PySem.call (.ref 230) [.ref a.lx]) (fun v s'=>(∃tk,v= .str t tk)∧(∃j,(j≤x.length∨t=⟨#[]⟩)∧x.cps.toList.drop j=r'∧Xr a x j s'.heap)∧KpF false a.vol s s') (fun _ _=>False) s:=by
 refine ZK fun Q hQ=> ?_
 obtain⟨L,hL⟩:∃L,L=s.heap.objs.size:=⟨_,rfl⟩
 have hLn:s.heap.get? L=none:=by rw[hL];exact Yc _
 have h9L:439≤L:=by rw[hL];exact B.size
 have nL:∀b∈a.all,b≠L:=fun b hb q=>by
  obtain⟨o,e⟩:=La.live hb
  rw[q,hLn]at e;cases e
 have hX:∀s₁ s':Shared,Xr a x i s₁.heap→KpF false [L] s₁ s'→Xr a x i s'.heap:=fun s₁ s' La k=>La.kpf (fun b hb m=>nL b hb (List.mem_singleton.mp m)) k
 refine KU (V:=[]) (l:=false) (s₀:=s) (X:=fun s'=>Xr a x i s'.heap) (a:=230) (c':=229) (o:=o230 w.params) (oc:=o229 w.params) (cvs:=Xn (o229 w.params)) (ct:=2710) (fd:=fdOf (o230 w.params)) (body:=fdB (stM 21 2)) (ns:=["self"]) (ps:=[.val (.ref a.lx)]) (vs:=[.ref a.lx]) (by kernel_rfl) rfl (by kernel_rfl) (by kernel_rfl) (by kernel_rfl) rfl (by kernel_rfl) (by kernel_rfl) (by kernel_rfl) (fun M A E Q q=>by
  have e:bindArgs (fdOf (o230 w.params)) ⟨[.ref a.lx],[]⟩=pure ((["self"]:List Str).zip [.ref a.lx]):=by kernel_rfl
  rw[e];exact wpAny_pure q) (.refl s) (Zw _) (by kernel_rfl) (by kernel_rfl) (by kernel_rfl) (by kernel_rfl) (by kernel_rfl) (by kernel_rfl) (by kernel_rfl) hh (by lia) B (fun b hb=>by cases hb) (Xl Xy XW) (by rw[←hL];exact hX) La ?_
 rw[←hL]
 intro s₁ hX' k₁ st
 have hbody:fdB (stM 21 2)=fdB (stM 21 2):=rfl
 conv at hbody=>rhs;whnf
 rw[hbody]
 let e₁:Env:=callEnv (fdOf (o230 w.params)) L 230
 let A₁:Around:=A.deeper e₁
 let cM:Cx:=mkC w g A (fdOf (o230 w.params)) L 230 false [] (fun s'=>Xr a x i s'.heap) hX' hh (by kernel_rfl) (by kernel_rfl) (by kernel_rfl)
 let ρ₀:List (Str×PV):=[("self",.val (.ref a.lx))]
 have st:(cM.wr ρ₀).St s₁:=st
 have go:=Xx st
 refine go _ _ _ ?_
 refine Ye (b:=false) st (Yr (p:=.lst []) (Up (a:=a) (x:=x) (i:=i) (Xa rfl rfl rfl rfl) (fun s' st'=>st'.2.2) (fun P=>by kernel_rfl) fun h1 h2 h3 h4 t1 t2 t3 t4 t5 t6 n=>⟨.ref a.pb,by kernel_rfl,rfl,fun s' st'=> ?_⟩) truth_nil rfl) fun s₂ st₂ k₂=> ?_
 ·have La':Xr a x i s'.heap:=st'.2.2
  rw[Rep]
  exact⟨a.pb,#[],rfl,Yx (Xv (La.big _ (by repeat constructor))) (fun m=>absurd (show a.pb∈([]:List Addr)from m) List.not_mem_nil),⟨0,La'.pb⟩,XW⟩
 refine wpAny_execs_nil ?_
 refine Ji st₂ (.str ⟨#[]⟩) (YP XK (by kernel_rfl)) (.inl rfl) rfl fun s₃ st₃ k₃=> ?_
 refine Zy st₃ (.inl rfl) rfl ?_
 show wpAny _ _ (eval (.Name "iter" _) _ >>= fun f=>callWith _ f [] (backTo _ (starEach [_,_] _)) (backToKw _ (keywordEach [] _))) _ _ s₃
 refine wpAny_bind (Xi (Xm (v:=.builtin "iter") rfl (by kernel_rfl) (by kernel_rfl) rfl) st₃ fun v₄ s₄ r₄ k₄ st₄=> ?_)
 rw[Rep]at r₄
 subst r₄
 refine callWith_builtin rfl (evalArgs_plain (spliced_cons (Attribute_name (Xi (Xa (pv:=.val (.ref a.lx)) rfl rfl rfl rfl) st₄ fun v₅ s₅ r₅ k₅ st₅=> ?_))))
 rw[Rep]at r₅
 subst r₅
 refine wp_bound st₅.1 st₅.2.2 fun b s₆ k₆ hb9 hbn hb=> ?_
 have st₆:=st₅.kp k₆
 refine spliced_cons (Xi XK st₆ fun v₇ s₇ r₇ k₇ st₇=>spliced_nil ?_)
 rw[Rep]at r₇
 obtain⟨te,rfl⟩:=r₇
 have hb₇:=k₇.get0 hb
 refine call_iter2 hb₇ ?_
 obtain⟨I,hI⟩:∃I,I=s₇.heap.objs.size:=⟨_,rfl⟩
 have k₈:Kp false s₇ {s₇ with heap:=s₇.heap.push {cls:=.type "callable_iterator",data:=.fields #[.ref b,.str ⟨#[]⟩ te,.bool false]}}:=XZ _
 have hI₈:({s₇ with heap:=s₇.heap.push {cls:=.type "callable_iterator",data:=.fields #[.ref b,.str ⟨#[]⟩ te,.bool false]}}:Shared).heap.get? I=some {cls:=.type "callable_iterator",data:=.fields #[.ref b,.str ⟨#[]⟩ te,.bool false]}:=by rw[hI];exact Heap.get?_push_size _ rfl
 have st₈:=st₇.kp k₈
 have hIn:s₇.heap.get? I=none:=by rw[hI];exact Yc _
 have hI9:439≤I:=by rw[hI];exact st₇.1.size
 have liveL:∃o,s₇.heap.get? L=some o:=by
  obtain⟨m,⟨o,_,_,ho,_⟩,_⟩:=st₇.2.1.ns
  exact⟨o,ho⟩
 have liveL5:∃o,s₅.heap.get? L=some o:=by
  obtain⟨m,⟨o,_,_,ho,_⟩,_⟩:=st₅.2.1.ns
  exact⟨o,ho⟩
 have La₅:Xr a x i s₅.heap:=st₅.2.2
 have La₇:Xr a x i s₇.heap:=st₇.2.2
 have nI:∀{y:Addr},(∃o,s₇.heap.get? y=some o)→I≠y:=fun h q=>by obtain⟨o,e⟩:=h;rw[←q,hIn]at e;cases e
 have nb:∀{y:Addr},(∃o,s₅.heap.get? y=some o)→b≠y:=fun h q=>by obtain⟨o,e⟩:=h;rw[←q,hbn]at e;cases e
 have G:GT a L I b:=⟨La.big,nL,nI liveL,nb liveL5,h9L,hI9,fun m=>nI (La₇.live m) rfl,fun m=>nb (La₅.live m) rfl⟩
 rw[←hI]
 have to₈:=XS (x:="fiter") (p:=.val (.ref I)) (v:=.ref I) st₈ Xy (.inl rfl)
 refine to₈ _ _ _ fun s₉ st₉ k₉=> ?_
 let cG (n:Nat):Cx:=gtCx w g A a x L I b te G hh n
 let ρ₉:List (Str×PV):=[("fiter",.val (.ref I)),("token",.str ⟨#[]⟩),("self",.val (.ref a.lx))]
 have st₉':(cM.wr ρ₉).St s₉:=st₉
 have La₉:Xr a x i s₉.heap:=st₉.2.2
 have k₉':KpF false [L] _ s₉:=Yt (Zw w.params) (.head _) k₉
 have st₁₀:((cG i).wr ρ₉).St s₉:=St.look (c:=cM) (X:=XT a x I b te i) (hX:=Wx w.params G i) st₉' ⟨La₉,k₉'.get0 (fun m=>G.IL (List.mem_singleton.mp m)) hI₈,k₉'.get0 (fun m=>G.bL (List.mem_singleton.mp m)) (k₈.get0 hb₇)⟩
 have to₁₀:=Xx st₁₀
 refine to₁₀ _ _ _ ?_
 have kA:KpF false (L::a.vol) s s₉:=((((((((KpF.of k₁).trans (.of k₂)).trans (Yt (Zw w.params) (.head _) k₃)).trans (.of k₄)).trans (.of k₅)).trans (.of k₆)).trans (.of k₇)).trans (.of k₈)).trans (k₉'.sub fun y hy=>by rw[List.mem_singleton]at hy;rw[hy];exact .head _)
 have fin:∀{s':Shared},KpF false (L::a.vol) s s'→KpF false a.vol s s':=fun k=>k.drop fun y hy hn=>by
  rcases List.mem_cons.mp hy with q |q
  ·rw[q];exact hLn
  ·exact absurd q hn
 have hI0:s.heap.get? I=none:=by
  cases e:s.heap.get? I with
  |none=>rfl
  |some o=>
   have k7:KpF false [L] s s₇:=((((((KpF.of k₁).trans (.of k₂)).trans (Yt (Zw w.params) (.head _) k₃)).trans (.of k₄)).trans (.of k₅)).trans (.of k₆)).trans (.of k₇)
   rw[k7.get0 (fun m=>G.IL (List.mem_singleton.mp m)) e]at hIn
   cases hIn
 let rho:List (Str×PV):=[("token",.str ⟨#[]⟩),("fiter",.val (.ref I)),("self",.val (.ref a.lx))]
 refine wpAny_execs_cons ?_
 refine wpAny_For (Xi (c:=(cG i).wr _) (Xa (pv:=.val (.ref I)) rfl rfl rfl rfl) st₁₀ fun v s₁₁ r₁₁ k₁₁ st₁₁=> ?_) (fun _=>rfl)
 rw[Rep]at r₁₁
 subst r₁₁
 have X₁₁:XT a x I b te i s₁₁:=st₁₁.2.2
 refine iter_self X₁₁.2.1 ?_
 let J:Nat→Shared→Prop:=fun n s'=>∃rest i,rest.length=n∧i≤x.length+1∧x.cps.toList.drop i=rest∧TTo rest t r'∧((cG i).wr rho).St s'∧KpF false (L::a.vol) s s'
 refine codeAny_forLoop_any J ?_ (x.cps.toList.drop i).length ⟨_,i,rfl,hi,rfl,hT,st₁₁.sub (Yf fun p hp=>by
  rcases mem3 hp with rfl |rfl |rfl<;>rfl),kA.trans (.of k₁₁)⟩
 rintro n s' ⟨rest,i,rfl,hi,hd,hq,st,k⟩
 have hrl:rest.length≤50000:=hd▸Nat.le_trans (List.drop_sublist _ _).length_le hx
 refine ZK fun Q₂ hQ₂=> ?_
 cases rest with
 |nil=>
  obtain⟨rfl,rfl⟩:=hq.nil_inv
  refine wpAny_mono (gt_end st (by rfl) hdep (Nat.le_trans hx (by decide)) (Nat.le_trans hi (Nat.succ_le_succ (Nat.le_trans hx (by decide)))) hd) (fun v s₁ q=>hQ₂ _ _ ?_) fun _ _ x=>x
  obtain⟨rfl,st₁,k₁⟩:=q
  refine wpAny_execs_nil ?_
  refine wpAny_execs_cons ?_
  rw[exec_Return_some]
  refine wpAny_bind (wpAny_standAt (wpAny_bind (Xi (c:=(glCx w g A a x L I b G hh (i+1)).wr rho) (Xa (pv:=.str ⟨#[]⟩) (by rfl) rfl rfl rfl) st₁ fun v₄ s₄ r₄ k₄ st₄=>wpAny_pure ?_)))
  rw[Rep]at r₄
  have La₄:Xr a x (i+1) s₄.heap:=st₄.2.2
  have kk:KpF false (I::L::a.vol) s s₄:=((k.sub fun y hy=>.tail _ hy).trans (k₁.sub fun y hy=>by
   rcases List.mem_cons.mp hy with q |q
   ·rw[q];exact .head _
   ·exact .tail _ (.tail _ q))).trans (.of k₄)
  refine hQ _ _ ⟨r₄,⟨i+1,.inr rfl,(rd_nil hd).2,La₄⟩,kk.drop fun y hy hn=> ?_⟩
  rcases List.mem_cons.mp hy with q |q
  ·rw[q];exact hI0
  rcases List.mem_cons.mp q with q |q
  ·rw[q];exact hLn
  ·exact absurd q hn
 |cons c r=>
  refine wpAny_mono (gt_next st (by rfl) hdep (Nat.le_trans hx (by decide)) hd) (fun v s₁ q=>hQ₂ _ _ ?_) fun _ _ x=>x
  obtain⟨⟨t0,rfl⟩,st₁,k₁⟩:=q
  have to₁:=XS (x:="ch") (p:=.str (one c)) (v:=.str (one c) t0) st₁ (by rw[Rep];exact⟨_,rfl⟩) (.inl rfl)
  refine wpAny_pure (wpAny_assign_Name (to₁ _ _ _ fun s₂ st₂ k₂=> ?_))
  have k₂:KpF false (L::a.vol) s s₂:=(k.trans (k₁.sub fun y hy=>.tail _ hy)).trans (Yt (Zw _) (.head _) k₂)
  let cc:Cx:=(cG (i+1)).wr (("ch",.str (one c))::rho)
  have st₂:cc.St s₂:=st₂
  obtain⟨_,hd1,hlt⟩:=Kl hd
  cases hq.cons_inv with
  |ws hws h=>
   refine Ye (c:=cc) (b:=true) st₂ (Xk (Uz _ _ c (by rfl) (by rfl)) hws) fun s₃ st₃ k₃=> ?_
   refine wpAny_execs_cons (wpAny_Continue ?_)
   exact⟨r.length,Nat.lt_succ_self _,r,i+1,rfl,Nat.succ_le_succ (Nat.le_of_lt hlt),hd1,h,st₃.sub (Yf fun p hp=>by
    rcases mem3 hp with rfl |rfl |rfl<;>rfl),k₂.trans (.of k₃)⟩
  |quo hws he h=>
   refine Ye (c:=cc) (b:=false) st₂ (Xk (Uz _ _ c (by rfl) (by rfl)) hws) fun s₃ st₃ k₃=>wpAny_execs_nil ?_
   refine Ye (c:=cc) (b:=true) st₃ (Xk (VU _ _ c (by rfl) (by rfl)) he) fun s₄ st₄ k₄=> ?_
   refine wpAny_execs_cons (wpAny_mono (loopS (i:=i+1) (tok:=⟨#[]⟩) (stop:=(· ==34)) rfl (fun j ρ c e1 e2=>VU j ρ c e1 e2) rfl rfl hdep hx hd1 h (Nat.le_trans (Nat.le_of_eq (Nat.zero_add _)) (Nat.le_trans (Nat.le_of_succ_le hrl) (by decide))) st₄ (Yf fun p hp=>by
    rcases mem3 hp with rfl |rfl |rfl<;>rfl)) (fun f s₅ q=> ?_) fun _ _ x=>x)
   obtain⟨⟨tk,rfl⟩,⟨j,hj,hjd,La₅⟩,k₅⟩:=q
   exact hQ _ _ ⟨⟨tk,rfl⟩,⟨j,.inl hj,hjd,La₅⟩,fin (((k₂.trans (.of k₃)).trans (.of k₄)).trans k₅)⟩
  |lit hws he hb h=>
   refine Ye (c:=cc) (b:=false) st₂ (Xk (Uz _ _ c (by rfl) (by rfl)) hws) fun s₃ st₃ k₃=>wpAny_execs_nil ?_
   refine Ye (c:=cc) (b:=false) st₃ (Xk (VU _ _ c (by rfl) (by rfl)) he) fun s₄ st₄ k₄=> ?_
   refine Ye (c:=cc) (b:=false) st₄ (Xk (Wb _ _ c (by rfl)) hb) fun s₅ st₅ k₅=>wpAny_execs_nil ?_
   refine Xq (c:=cc) (KZ (t:=⟨#[]⟩) (u:=one c) st₅ (by rfl) rfl (Xa (by rfl) rfl rfl rfl) (Nat.le_trans (show 0+1≤1 by decide) (by decide +kernel)) fun s₆ st₆ k₆=>⟨rfl,?_⟩)
   rw[Uq]at st₆
   refine wpAny_execs_cons (wpAny_mono (loopS (i:=i+1) (tok:=one c) (stop:=wsC) (by decide +kernel) (fun j ρ c e1 e2=>Uz j ρ c e1 e2) rfl rfl hdep hx hd1 h (Nat.le_trans (Nat.le_of_eq (Nat.add_comm _ _)) (Nat.le_trans hrl (by decide))) st₆ (Yf fun p hp=>by
    rcases mem3 hp with rfl |rfl |rfl<;>rfl)) (fun f s₇ q=> ?_) fun _ _ x=>x)
   obtain⟨⟨tk,rfl⟩,⟨j,hj,hjd,La₇⟩,k₇⟩:=q
   exact hQ _ _ ⟨⟨tk,rfl⟩,⟨j,.inl hj,hjd,La₇⟩,fin (((((k₂.trans (.of k₃)).trans (.of k₄)).trans (.of k₅)).trans (Yt (Zw _) (.head _) k₆)).trans k₇)⟩
noncomputable def Outer(s:Shared)(outer:List Env):Prop:=∀env∈outer,env.scope.kind= .function∧∃L o es n,env.frame=some L∧439≤L∧s.heap.get? L=some o∧o.data= .dict es n
theorem Outer.funs{s:Shared}{base:Heap}:∀{outer:List Env},Outer s outer→(∀env∈outer,∀L,env.frame=some L→base.get? L=none)→s.heap.FunFrames base outer
 | [],_,_=>trivial
 |env::r,h,hb=>by
  obtain⟨hk,L,o,es,n,hf,_,ho,hd⟩:=h env (List.mem_cons_self ..)
  exact⟨by rw[hk];decide,⟨L,o,hf,hb env (List.mem_cons_self ..) L hf,ho,fun vs q=>by rw[hd]at q;cases q⟩,Outer.funs (fun e he=>h e (List.mem_cons_of_mem _ he)) fun e he=>hb e (List.mem_cons_of_mem _ he)⟩
noncomputable abbrev frs(l:List Env):List Addr:=l.filterMap (·.frame)
theorem UF{l:List Env}{env:Env}{L:Addr}(h:env∈l)(hf:env.frame=some L):L∈frs l:=List.mem_filterMap.mpr ⟨env,h,hf⟩
theorem Outer.keep{s s':Shared}{outer:List Env}(h:Outer s outer)(k:∀b o,b∈frs outer→s.heap.get? b=some o→s'.heap.get? b=some o):Outer s' outer:=fun env he=>by
 obtain⟨hk,L,o,es,n,hf,h9,ho,hd⟩:=h env he
 exact⟨hk,L,o,es,n,hf,h9,k L o (UF he hf) ho,hd⟩
section
variable{c:Cx}
theorem KD{a b:Int}:Zi c .NotEq (.int a) (.int b) (a !=b):=fun s v u hs h1 h2=>by
 rw[Rep]at h1
 rw[Rep]at h2
 obtain⟨t,rfl⟩:=h1
 obtain⟨t',rfl⟩:=h2
 exact PyProof.Rows.ne_int ⟨rfl,.refl s⟩
end
noncomputable def Xf(R:List (Str×Str)):List PV:=R.map fun p=>.tup [.str p.1,.str p.2]
noncomputable def cutK(n:Nat)(p:PV):Str:=Str.sl (fstS p) none (some n)
noncomputable def Zo(R:List (Str×Str))(h:Str):Nat:=bis (fun i=>ltS (cutK h.length ((Xf R).getD i elt0)) h) ((Xf R).length+1) 0 (Xf R).length
noncomputable def Zv(R:List (Str×Str))(h:Str):Nat:=bis (fun i=> !ltS h (cutK h.length ((Xf R).getD i elt0))) ((Xf R).length+1) (Zo R h) (Xf R).length
noncomputable def Kv(H:List (Str×Str))(h:Str):PV:=if(Txt.lower (Txt.upper h)).cps.toList.any nmP then .none else .lst ((H.filter fun p=>Txt.lower p.1==Txt.lower (Txt.upper h)).map fun p=>.str p.2)
noncomputable def JV(R H:List (Str×Str))(x:Str):PV:=if barL (prep x).cps.toList≠0 then .int (barL (prep x).cps.toList)else
 .tup [.lst ((sl R (some (Zo R (prep x))) (some (Zv R (prep x)))).map fun p=>.str p.2),Kv H (prep x)]
noncomputable def q425(P:Params):Str:=(callEnvC (fdOf (o428 P)) 0 428).qual++"<lambda>"
theorem key_cut{w:World}{g:Nat→Obj}{n:Nat}{objs:List (Addr×Obj)}{f:Addr}{qual:Str}{pk:Pos}{p1 p2 p3 p4 p5 p6 p7:Pos}{k0:Nat}{L:Addr}{pm cv ctv:Value}{c':Addr}{oc:Obj}{cvs:Array Value}{ct:Tok}{ocl:Obj}{tc:Tok}{y z:Str}(hy:y.length≤100000)
(ha:(f,Uj qual {posonlyargs:=[],args:=[{arg:="pair",annotation:=none,pos:=pk}],vararg:=none,kwonlyargs:=[],kw_defaults:=[],kwarg:=none,defaults:=[]} (.Subscript (.Subscript (.Name "pair" p1) (.Constant (.int 0) k0 p2) p3) (.Slice none (some (.Name "width" p4)) none p5) p6) {kind:=.function,names:=[("pair",.local),("width",.free)],isGenerator:=false,isCoroutine:=false} [("width",L)] pm cv ctv)∈objs)
(hcv:cv= .ref c')(hoc:(c',oc)∈objs)(hdc:oc.data= .fields cvs)(hcn:cvs[1]? =some (.str qual ct))(hcl:(L,ocl)∈objs)(hcd:ocl.data= .cell (some (.int (n:Nat) tc)))(h9:∀p∈objs,439≤p.1):
 Kc w g false 1 objs (.ref f) [.tup [.str y,.str z]] (.str (cutK n (.tup [.str y,.str z]))):=by
 refine key_lam (n:=0) (ns:=["pair"]) (ρf:=[("width",.int (n:Nat))]) ha hcv hoc hdc hcn h9 ?_ (by kernel_rfl) (by kernel_rfl) rfl rfl rfl ?_ ?_ ?_ ?_
 ·intro vs hv
  obtain⟨v,rfl⟩:=len1 hv
  kernel_rfl
 ·intro x q hx
  obtain⟨rfl,rfl⟩:=lk1 hx
  exact⟨by kernel_rfl,L,ocl,_,by kernel_rfl,hcl,hcd,fun V h=>YG⟩
 ·intro x b hx
  obtain⟨_,rfl⟩:=lk1 hx
  exact⟨ocl,_,hcl,hcd⟩
 ·intro x y' b hx hy'
  exact(lk1 hx).1.symm.trans (lk1 hy').1
 ·intro V A L' hh hL hd
  exact YZ (q:=.str y) (XY (p:=.tup [.str y,.str z]) (q:=.int 0) (Xa rfl rfl rfl rfl) Xe (XX (by decide) (by decide) rfl) rfl) YR (Yy (n:=n) (Xa rfl rfl rfl rfl)) (Ki (Nat.le_trans hy (by decide +kernel)))
noncomputable def TabG(F:List Addr)(h:Heap)(P:Addr)(q:Str):Prop:=∃ps:Array Value,h.get? P=some (tabObj ps)∧TriplesOk ps.toList∧∀pos cv,codeAmong pos ps.toList=some cv→∃c' o cvs ct,cv= .ref c'∧439≤c'∧c'∉F∧h.get? c'=some o∧o.data= .fields cvs∧cvs[1]? =some (.str q ct)
theorem TabG.nil{F:List Addr}{h:Heap}{P:Addr}{q:Str}(e:h.get? P=some (tabObj #[])):TabG F h P q:=⟨#[],e,trivial,fun pos cv e=>by cases e⟩
theorem TabG.kpf{F G:List Addr}{s s':Shared}{P:Addr}{q:Str}(T:TabG F s.heap P q)(k:KpF false G s s')(hP:P∉G)(hG:∀b∈G,b∈F∨Xp b=true):TabG F s'.heap P q:=by
 obtain⟨ps,a,b,c⟩:=T
 refine⟨ps,k.get0 hP a,b,fun pos cv e=> ?_⟩
 obtain⟨c',o,vs,t,rfl,h9,hc,e1,e2,e3⟩:=c pos cv e
 refine⟨c',o,vs,t,rfl,h9,hc,k.get0 (fun m=> ?_) e1,e2,e3⟩
 rcases hG c' m with x |x
 ·exact hc x
 ·rw[Xv h9]at x;cases x
theorem TabG.re{F G:List Addr}{h:Heap}{P:Addr}{q:Str}(T:TabG F h P q)(k:∀b∈G,b∈F∨h.get? b=none∨∃o es n,h.get? b=some o∧o.data= .dict es n):TabG G h P q:=by
 obtain⟨ps,a,b,c⟩:=T
 refine⟨ps,a,b,fun pos cv e=> ?_⟩
 obtain⟨c',o,vs,t,rfl,h9,hc,e1,e2,e3⟩:=c pos cv e
 refine⟨c',o,vs,t,rfl,h9,fun m=> ?_,e1,e2,e3⟩
 rcases k c' m with x |x | ⟨o',es,n,x,y⟩
 ·exact hc x
 ·rw[e1]at x;cases x
 ·rw[e1]at x;cases x
  rw[e2]at y;cases y
section
variable{c:Cx}
theorem wp_lamG{F:List Addr}{params:Arguments}{body:PySem.Expr}{scope:Scope}{pos:Pos}{cA P:Addr}{clos:List (Str×Addr)}{s:Shared}{Q E:Value→Shared→Prop}(hs:c.St s)(hdef:defaultsOf params c.env=([],[]))(hcode:c.env.code= .ref cA)
(hC:CodeHd s.heap cA P)(hP:Xp P=true)(hT:TabG F s.heap P (c.env.qual++"<lambda>"))(hF:∀b∈F,b<s.heap.objs.size)(hcl:closureFor scope c.env=pure clos)
(h:∀(f c':Addr) (oc:Obj) (cvs:Array Value) (ct:Tok) (ctv:Value) (s':Shared),KpF false [P] s s'→TabG F s'.heap P (c.env.qual++"<lambda>")→
   s'.heap.get? f=some (Uj (c.env.qual++"<lambda>") params body scope clos (((S35 c.w c.g).heap.nsMap mainGlobals "__name__").getD .none) (.ref c') ctv)→s'.heap.get? c'=some oc→oc.data= .fields cvs→cvs[1]? =some (.str (c.env.qual++"<lambda>") ct)→439≤c'→c'∉F→s.heap.objs.size≤f→Q (.ref f) s'):
 wpAny (model pw c.w) c.A (eval (.Lambda params body scope pos) c.env) Q E s:=by
 obtain⟨ps,hg,ht,hall⟩:=hT
 have h439:=hs.1.size
 have hb:s.heap.BuiltinsAt ((S35 c.w c.g).heap.nsMap mainGlobals) P:=blt_here hs hP
 refine kla_eval hdef ?_
 cases hf:codeAmong pos ps.toList with
 |none=>
  refine kla_makeFunction hcl c.globs (c.globs▸hs.g) hcode hC hg ht hf (fun e=>by rw[←e]at hP;cases hP) hb fun c' ctv h' tk hx hge hlt hrec htb=> ?_
  have hx':∀o:Obj,∀b x,b≠P→s.heap.get? b=some x→(h'.push o).get? b=some x:=fun o b x n e=>Heap.get?_push_of_some _ (hx b x n e)
  have ht':TriplesOk (ps++#[rawInt pos.line,rawInt pos.col,.ref c']).toList:=by rw[Array.toList_append];exact TriplesOk_snoc _ _ _ _ ht
  obtain⟨c1,oc,cvs,ct,e0,e1,e2,e3⟩:=hrec
  cases e0
  have cF:c'∉F:=fun m=>absurd (hF _ m) (Nat.not_lt.mpr hge)
  have c9:439≤c':=Nat.le_trans h439 hge
  refine h _ c' oc cvs ct ctv _ ⟨_,_,rfl,fun b o _ m e=>hx' _ b o (fun q=>m (by rw[q];exact List.mem_singleton.mpr rfl)) e⟩ ⟨_,Heap.get?_push_of_some _ htb,ht',fun p cv e=> ?_⟩ (Heap.get?_push_size _ rfl) (Heap.get?_push_of_some _ e1) e2 e3 c9 cF (Nat.le_trans hge (Nat.le_of_lt hlt))
  rw[Array.toList_append]at e
  rcases codeAmong_of_snoc _ ht e with q |rfl
  ·obtain⟨c2,o2,v2,t2,rfl,a1,a2,a3,a4,a5⟩:=hall p cv q
   refine⟨c2,o2,v2,t2,rfl,a1,a2,hx' _ _ _ (fun q=> ?_) a3,a4,a5⟩
   rw[q]at a1
   rw[Xv a1]at hP;cases hP
  ·exact⟨c',oc,cvs,ct,rfl,c9,cF,Heap.get?_push_of_some _ e1,e2,e3⟩
 |some cv=>
  refine kla_makeFunctionHit hcl c.globs (c.globs▸hs.g) hcode hC hg ht hf hb fun ctv h' tk hk hsz=> ?_
  have hk':∀o:Obj,∀b x,s.heap.get? b=some x→(h'.push o).get? b=some x:=fun o b x e=>Heap.get?_push_of_some _ (hk b x e)
  obtain⟨c2,o2,v2,t2,rfl,a1,a2,a3,a4,a5⟩:=hall _ _ hf
  exact h _ c2 o2 v2 t2 ctv _ ⟨_,_,rfl,fun b o _ m e=>hk' _ b o e⟩ ⟨ps,hk' _ _ _ hg,ht,fun p cv e=>let⟨c3,o3,v3,t3,b0,b1,b2,b3,b4,b5⟩:=hall p cv e;⟨c3,o3,v3,t3,b0,b1,b2,hk' _ _ _ b3,b4,b5⟩⟩ (Heap.get?_push_size _ rfl) (hk' _ _ _ a3) a4 a5 a1 a2 hsz
end
theorem fd_hcells(P:Params)(L:Addr):cellsFrom (L+1) (fdOf (o428 P)).scope.names []=([("width",L+1)]:List (Str×Addr)):=by kernel_rfl
noncomputable abbrev fdCx(w:World)(g:Nat→Obj)(A:Around)(L:Addr)(V:List Addr)(X:Shared→Prop)(hX:∀s₁ s',X s₁→KpF false (L::(cellsFrom (L+1) (fdOf (o428 w.params)).scope.names []).map (fun x:Str×Addr=>x.2)) s₁ s'→X s')(hh:A.handled=none):Cx:=
 {w:=w,g:=g,A:=A.deeper (callEnvC (fdOf (o428 w.params)) L 428),env:=callEnvC (fdOf (o428 w.params)) L 428,ρ:=[],lam:=false,V:=V,X:=X,hX:=hX,hh:=hh,kind:=by kernel_rfl,globs:=by kernel_rfl,blts:=by kernel_rfl,ground:=Xs w g}
noncomputable def XF(P:Params)(L sx dx hl:Addr)(V:List Addr)(H:List (Str×Str))(s:Shared):Prop:=YJ s.heap sx dx hl∧Rep (L::(L+1)::V) s.heap (kvPV H) (.ref hl)∧TabG (L::(L+1)::V) s.heap 425 (q425 P)
theorem Vg{P:Params}{L sx dx hl:Addr}{V:List Addr}{H:List (Str×Str)}{G:List Addr}{s s':Shared}(hL:439≤L)(hG:∀b∈G,b=L∨b=L+1∨Xp b=true∧b≠425)(hsx:sx≠L∧sx≠L+1)(hdx:dx≠L∧dx≠L+1)(x:XF P L sx dx hl V H s)(k:KpF false G s s'):XF P L sx dx hl V H s':=by
 obtain⟨x1,x2,x3⟩:=x
 have tabs:∀b,439≤b→b≠L→b≠L+1→b∉G:=fun b h9 h1 h2 m=>by
  rcases hG b m with q |q |q
  ·exact h1 q
  ·exact h2 q
  ·rw[Xv h9]at q;exact absurd q.1 (by decide)
 refine⟨x1.at fun b o h9 hb e=>k.get0 (tabs b h9 ?_ ?_) e,x2.mono fun b d x n hb e=>k.get0 (fun m=> ?_) e,x3.kpf k (fun m=> ?_) (fun b m=> ?_)⟩
 ·rcases hb with rfl |rfl
  ·exact hsx.1
  ·exact hdx.1
 ·rcases hb with rfl |rfl
  ·exact hsx.2
  ·exact hdx.2
 ·have:=XM hb
  rcases hG b m with rfl |rfl |q
  ·exact this (.head _)
  ·exact this (.tail _ (.head _))
  ·rw[Xu hb]at q;exact absurd q.1 (by decide)
 ·rcases hG _ m with q |q |q
  ·rw[←q]at hL;exact absurd hL (by decide)
  ·have h1:(425:Nat)=L+1:=q
   have h2:(439:Nat)≤L:=hL
   exact absurd (h1▸Nat.le_succ_of_le h2:(439:Nat)≤425) (by decide)
  ·exact q.2 rfl
 ·rcases hG b m with q |q |q
  ·exact .inl (by rw[q];exact .head _)
  ·exact .inl (by rw[q];exact .tail _ (.head _))
  ·exact .inr q.1
theorem q425_eq(P:Params)(L:Addr):(callEnvC (fdOf (o428 P)) L 428).qual++"<lambda>"=q425 P:=by kernel_rfl
theorem fd_clos(P:Params)(L:Addr):closureFor {kind:=.function,names:=[("pair",.local),("width",.free)],isGenerator:=false,isCoroutine:=false} (callEnvC (fdOf (o428 P)) L 428)=pure [((Str.ofString "width":Str),L+1)]:=by kernel_rfl
theorem fd_wid(P:Params)(L:Addr):(callEnvC (fdOf (o428 P)) L 428).cells.lookup (Str.ofString "width")=some (L+1):=by kernel_rfl
theorem fd_lam{w:World}{g:Nat→Obj}{A:Around}{L:Addr}{V:List Addr}{X:Shared→Prop}{hX hh}{ρ:List (Str×PV)}{s:Shared}{n:Nat}{pk p1 p2 p3 p4 p5 p6 p7:Pos}{k0:Nat}{Q E:Value→Shared→Prop}
(st:((fdCx w g A L V X hX hh).wr ρ).St s)(hw:ρ.lookup (Str.ofString "width")=some (.int (n:Nat)))(hL:439≤L)(hT:TabG (L::(L+1)::V) s.heap 425 (q425 w.params))
(h:∀(f:Addr) (objs:List (Addr×Obj)) (s':Shared),KpF false [425] s s'→TabG (L::(L+1)::V) s'.heap 425 (q425 w.params)→XO objs s'→
   (∀y z:Str,y.length≤100000→Kc w g false 1 objs (.ref f) [.tup [.str y,.str z]] (.str (cutK n (.tup [.str y,.str z]))))→(∃o fd,(f,o)∈objs∧o.data= .func fd)→(∀p∈objs,439≤p.1)→Q (.ref f) s'):
 wpAny (model pw w) (A.deeper (callEnvC (fdOf (o428 w.params)) L 428)) (eval (.Lambda {posonlyargs:=[],args:=[{arg:="pair",annotation:=none,pos:=pk}],vararg:=none,kwonlyargs:=[],kw_defaults:=[],kwarg:=none,defaults:=[]} (.Subscript (.Subscript (.Name "pair" p1) (.Constant (.int 0) k0 p2) p3) (.Slice none (some (.Name "width" p4)) none p5) p6) {kind:=.function,names:=[("pair",.local),("width",.free)],isGenerator:=false,isCoroutine:=false} p7) (callEnvC (fdOf (o428 w.params)) L 428)) Q E s:=by
 obtain⟨cw,v,hc,htab,⟨ow,how,hdw⟩,hrw⟩:=st.2.1.cell (Str.ofString "width") (.int (n:Nat)) hw (.inl rfl)
 have hc':cw=L+1:=by
  have e:=fd_wid w.params L
  have e2:(callEnvC (fdOf (o428 w.params)) L 428).cells.lookup (Str.ofString "width")=some cw:=hc
  rw[e]at e2;exact(Option.some.inj e2).symm
 subst hc'
 rw[Rep]at hrw
 obtain⟨tw,rfl⟩:=hrw
 have hF:∀b∈L::(L+1)::V,b<s.heap.objs.size:=fun b hb=>by
  rcases Xz.mp hb with rfl |hb
  ·obtain⟨m,⟨o,_,_,ho,_⟩,_⟩:=st.2.1.ns
   exact Heap.lt_size ho
  rcases Xz.mp hb with rfl |hb
  ·exact Heap.lt_size how
  ·obtain⟨_,o,e⟩:=st.2.1.vol b hb
   exact Heap.lt_size e
 have hC:CodeHd s.heap 427 425:=codeHd_of_K (K:=[(427,o427 w.params)]) (XD st.1 fun p hp=>by rw[List.mem_singleton]at hp;subst hp;exact⟨rfl,by kernel_rfl⟩) (by kernel_rfl)
 have e9:L+1≠425:=fun e=>by
  have h1:(L+1:Nat)=425:=e
  have h2:(439:Nat)≤L:=hL
  exact absurd (h1▸Nat.le_succ_of_le h2:(439:Nat)≤425) (by decide)
 have hq:((fdCx w g A L V X hX hh).wr ρ).env.qual++"<lambda>"=q425 w.params:=q425_eq w.params L
 refine wp_lamG (F:=L::(L+1)::V) (c:=(fdCx w g A L V X hX hh).wr ρ) (cA:=427) (P:=425) st rfl rfl hC rfl (by rw[hq];exact hT) hF (fd_clos w.params L) fun f c' oc cvs ct ctv s' k T hf hoc hdc hcn h9 hcF hfs=> ?_
 rw[hq]at T hf hcn
 have hw':=k.get0 (fun m=>e9 (List.mem_singleton.mp m)) how
 have H9:∀p∈[(f,Uj (q425 w.params) {posonlyargs:=[],args:=[{arg:="pair",annotation:=none,pos:=pk}],vararg:=none,kwonlyargs:=[],kw_defaults:=[],kwarg:=none,defaults:=[]} (.Subscript (.Subscript (.Name "pair" p1) (.Constant (.int 0) k0 p2) p3) (.Slice none (some (.Name "width" p4)) none p5) p6) {kind:=.function,names:=[("pair",.local),("width",.free)],isGenerator:=false,isCoroutine:=false} [("width",L+1)] (((S35 w g).heap.nsMap mainGlobals "__name__").getD .none) (.ref c') ctv),(c',oc),(L+1,ow)],439≤p.1:=fun p hp=>by
  rcases mem3 hp with rfl |rfl |rfl
  ·exact Nat.le_trans st.1.size hfs
  ·exact h9
  ·exact Nat.le_succ_of_le hL
 refine h f _ s' k T (Yi hf (Yi hoc (Yi hw' fun p hp=>by cases hp))) (fun y z hy=> ?_) ⟨_,_,List.mem_cons_self ..,rfl⟩ H9
 exact key_cut (p7:=p7) hy (List.mem_cons_self ..) rfl (List.mem_cons_of_mem _ (List.mem_cons_self ..)) hdc hcn (List.mem_cons_of_mem _ (List.mem_cons_of_mem _ (List.mem_cons_self ..))) hdw H9
noncomputable def Fl(T fr:List Addr)(s s':Shared):Prop:=KpF false (T++fr) s s'∧∀b∈fr,∀o,s.heap.get? b=some o→∃sl,s'.heap.get? b=some {o with slots:=sl}
theorem Fl.trans{T fr:List Addr}{s₁ s₂ s₃:Shared}(x:Fl T fr s₁ s₂)(y:Fl T fr s₂ s₃):Fl T fr s₁ s₃:=⟨x.1.trans y.1,fun b hb o e=>by
 obtain⟨sl,e2⟩:=x.2 b hb o e
 obtain⟨sl',e3⟩:=y.2 b hb _ e2
 exact⟨sl',e3⟩⟩
theorem Fl.of{T fr:List Addr}{s s':Shared}(k:KpF false T s s')(h:∀b∈fr,b∉T):Fl T fr s s':=⟨k.sub fun b hb=>List.mem_append_left _ hb,fun b hb o e=>⟨o.slots,k.get0 (h b hb) e⟩⟩
theorem Fl.kp{T fr:List Addr}{s s':Shared}(k:Kp false s s'):Fl T fr s s':=⟨.of k,fun b hb o e=>⟨o.slots,k.get0 e⟩⟩
theorem Fl.sub{T U fr:List Addr}{s s':Shared}(k:Fl T fr s s')(h:∀b∈T,b∈U):Fl U fr s s':=⟨k.1.sub fun b hb=>by
 rcases List.mem_append.mp hb with q |q
 ·exact List.mem_append_left _ (h b q)
 ·exact List.mem_append_right _ q,k.2⟩
theorem Fl.drop{T U fr:List Addr}{s s':Shared}(k:Fl T fr s s')(h:∀b∈T,b∉U→s.heap.get? b=none):Fl U fr s s':=⟨k.1.drop fun b hb hn=>by
 rcases List.mem_append.mp hb with q |q
 ·exact h b q fun m=>hn (List.mem_append_left _ m)
 ·exact absurd (List.mem_append_right _ q) hn,k.2⟩
theorem Wn{outer:List Env}{s:Shared}{h':Heap}{tk:Nat}(ho:Outer s outer)(hst:(hideAll s.heap (frs outer)).StaysIn h')(up:s.heap.UpToSlots h'):Fl [] (frs outer) s {s with heap:=h',toks:=tk}:=by
 refine⟨⟨h',tk,rfl,fun b o _ m e=>hst b o (hideAll_get _ e fun q=>m q)⟩,fun b hb o e=> ?_⟩
 obtain⟨env,he,hf⟩:=List.mem_filterMap.mp hb
 obtain⟨_,L,o',es,n,hf',h9,e',hd⟩:=ho env he
 rw[hf]at hf'
 cases hf'
 rw[e]at e'
 cases e'
 exact up b o e fun vs q=>by rw[hd]at q;cases q
theorem Outer.fl{T:List Addr}{outer:List Env}{s s':Shared}(ho:Outer s outer)(k:Fl T (frs outer) s s'):Outer s' outer:=fun env he=>by
 obtain⟨hk,L,o,es,n,hf,h9,e,hd⟩:=ho env he
 obtain⟨sl,e'⟩:=k.2 L (UF he hf) o e
 exact⟨hk,L,_,es,n,hf,h9,e',hd⟩
theorem Outer.kp{outer:List Env}{s s':Shared}(ho:Outer s outer)(k:Kp false s s'):Outer s' outer:=ho.keep fun b o _ e=>k.get0 e
theorem St.upK{c:Cx}{ρ:List (Str×PV)}{s s':Shared}{outer:List Env}{T:List Addr}{X:Shared→Prop}{hX}(hs:(c.wr ρ).St s)(ho:Outer s outer)(hT:∀b∈T,Xp b=true)(k:Fl T (frs outer) s s')(hcell:∀x a,c.env.cells.lookup x=some a→a∉frs outer)(x:X s'):((c.ch X hX).wr ρ).St s':=by
 have H:=hs.2.1
 have at_:∀b∈frs outer,439≤b∧∃o es n,s.heap.get? b=some o∧o.data= .dict es n:=fun b hb=>by
  obtain⟨env,he,hf⟩:=List.mem_filterMap.mp hb
  obtain⟨_,L,o,es,n,hf',h9,e,hd⟩:=ho env he
  rw[hf]at hf'
  cases hf'
  exact⟨h9,o,es,n,e,hd⟩
 have kk:∀b o,Xp b=false→b∉frs outer→s.heap.get? b=some o→s'.heap.get? b=some o:=fun b o n m e=>k.1.get0 (fun q=>by
  rcases List.mem_append.mp q with q |q
  ·rw[hT b q]at n;cases n
  ·exact m q) e
 have rr:∀p v,Rep c.V s.heap p v→Rep c.V s'.heap p v:=fun p v r=>r.mono fun b d x n hb e=>kk b _ (Xu hb) (fun m=>by
  obtain⟨_,o,es,n',e',hd⟩:=at_ b m
  rw[e]at e'
  cases e'
  cases hd) e
 refine⟨⟨fun b o n e=>kk b o n (fun m=>absurd (Us e) (Nat.not_lt.mpr (at_ b m).1)) (hs.1.1 b o n e),?_⟩,⟨?_,fun x pv hx hk=> ?_,H.high,fun x c hc=>let⟨n,v,o,ho,hd⟩:=H.there x c hc;⟨n,v,o,kk _ _ (Xv n) (hcell x c hc) ho,hd⟩,fun b hb=> ?_,H.apart⟩,x⟩
 ·obtain⟨h,t,rfl,_⟩:=k.1
  exact hs.1.2
 ·obtain⟨m,hn,hm⟩:=H.ns
  refine⟨m,?_,fun x pv hx hk=> ?_⟩
  ·by_cases q:c.env.locals∈frs outer
   ·obtain⟨o,es,ep,e,hd,r⟩:=hn
    obtain⟨sl,e'⟩:=k.2 _ q o e
    exact⟨_,es,ep,e',hd,r⟩
   ·exact JP (fun o e=>kk _ o (Xv H.high) q e) hn
  ·obtain⟨v,hv,hr⟩:=hm x pv hx hk
   exact⟨v,hv,rr _ _ hr⟩
 ·obtain⟨c,v,hc,ht,⟨o,ho,hd⟩,hr⟩:=H.cell x pv hx hk
  exact⟨c,v,hc,ht,⟨o,kk _ _ ht (hcell x c hc) ho,hd⟩,rr _ _ hr⟩
 ·obtain⟨h1,o,e⟩:=H.vol b hb
  refine⟨h1,?_⟩
  by_cases m:b∈frs outer
  ·obtain⟨sl,e2⟩:=k.2 b m o e
   exact⟨_,e2⟩
  ·exact⟨o,kk _ _ (Xv h1) m e⟩
section
variable{c:Cx}
theorem wp_methN{n name:Str}{np ap pos:Pos}{e:PySem.Expr}{rest:List PySem.Expr}{f sx C:Addr}{K:Frag}{ps:List PV}{s:Shared}{Q E:Value→Shared→Prop}(hs:c.St s)(hn:EvOk c (.Name n np) (.val (.ref sx)))(hK:∀s,c.St s→K.In s.heap)(hI:∀s,c.St s→∃ox od,InstAt s.heap sx ox C od∧shadowIn od name=some false)
(hga:findIn K (.ref C) "__getattribute__"=some (some (.builtin "object.__getattribute__")))(hk:findIn K (.ref C) "__getattr__"=some none)(hf:findIn K (.ref C) name=some (some (.ref f)))(ht:typeIn K (.ref f)=some (.type "function"))(hkeep:keepIn K (.ref f)=true)
(hb:attributeBase (.Name n np) name c.env (eval (.Name n np) c.env)=eval (.Name n np) c.env)(hl:(ap.endLine==pos.line)=true)(ha:YK c pos (e::rest) ps)(hst:(e::rest).all (fun e=> !XV e)=true)
(hform:methodCallForm ((e::rest).length+0) (backTo pos (starEach (e::rest) c.env)) (backToKw pos (keywordEach [] c.env))=true)
(h:∀vs s₁,Xb c.V s₁.heap ps vs→Kp c.lam s s₁→c.St s₁→wpAny (model pw c.w) c.A (PySem.call (.ref f) (.ref sx::vs)) Q E s₁):
 wpAny (model pw c.w) c.A (eval (.Call (.Attribute (.Name n np) name ap) (e::rest) [] pos) c.env) Q E s:=by
 have he:XV e=false:=by
  have:=List.all_eq_true.mp hst e (List.mem_cons_self ..)
  simpa using this
 have hpl:(backTo pos (starEach rest c.env)).any (·.1)=false:=ZM (by rw[List.all_cons,Bool.and_eq_true]at hst;exact hst.2)
 refine YN hb hform hl (Xi hn hs fun v s₁ r₁ k₁ st₁ pl=> ?_)
 rw[Rep]at r₁
 subst r₁
 obtain⟨ox,od,I,hsh⟩:=hI s₁ st₁
 refine method_fn (f:=f) (hK _ st₁) I hga hk hf ht hsh ?_
 refine callWith_K (h₀:=s₁.heap) (hK _ st₁) hkeep (wpAny_mono (ha.go s₁ st₁) (fun vs s₂ q=> ?_) fun _ _ x=>x.elim) (Xt he) hpl
 exact⟨hK _ (st₁.kp q.2),h vs s₂ q.1 (k₁.trans q.2) (st₁.kp q.2)⟩
theorem UM{n name:Str}{np ap pos:Pos}{f sx C:Addr}{K:Frag}{s:Shared}{Q E:Value→Shared→Prop}(hs:c.St s)(hn:EvOk c (.Name n np) (.val (.ref sx)))(hK:∀s,c.St s→K.In s.heap)(hI:∀s,c.St s→∃ox od,InstAt s.heap sx ox C od∧shadowIn od name=some false)
(hga:findIn K (.ref C) "__getattribute__"=some (some (.builtin "object.__getattribute__")))(hk:findIn K (.ref C) "__getattr__"=some none)(hf:findIn K (.ref C) name=some (some (.ref f)))(ht:typeIn K (.ref f)=some (.type "function"))(hkeep:keepIn K (.ref f)=true)
(hb:attributeBase (.Name n np) name c.env (eval (.Name n np) c.env)=eval (.Name n np) c.env)(hl:(ap.endLine==pos.line)=true)
(h:∀s₁,Kp c.lam s s₁→c.St s₁→wpAny (model pw c.w) c.A (PySem.call (.ref f) [.ref sx]) Q E s₁):
 wpAny (model pw c.w) c.A (eval (.Call (.Attribute (.Name n np) name ap) [] [] pos) c.env) Q E s:=by
 refine YN hb (by rfl) hl (Xi hn hs fun v s₁ r₁ k₁ st₁ pl=> ?_)
 rw[Rep]at r₁
 subst r₁
 obtain⟨ox,od,I,hsh⟩:=hI s₁ st₁
 refine method_fn (f:=f) (hK _ st₁) I hga hk hf ht hsh ?_
 exact callWith_K0 (hK _ st₁) hkeep (h s₁ k₁ st₁)
theorem name_bltX{x:Str}{pos:Pos}{v:Value}{s:Shared}(hs:c.St s)(hk:c.env.kindOf x=some .globalImplicit)(hm:(S35 c.w c.g).heap.nsMap mainGlobals x=none)(hb:(S35 c.w c.g).heap.nsMap builtinsNs x=some v)(hd:(x==("__debug__":Str))=false):
 ∀(M:Model) (A:Around) (Q E:Value→Shared→Prop),Q v s→wpAny M A (eval (.Name x pos) c.env) Q E s:=fun M A Q E q=>Name_function_global c.kind hk (loadGlobal_builtin hs.g hm hs.b hb q) hd
theorem asgX{x:Str}{p1 p2 p3:Pos}{k:Const}{n:Nat}{v:Value}{p:PV}{s:Shared}(hs:c.St s)(he:∀(A:Around) (Q E:Value→Shared→Prop),(∀s',Kp c.lam s s'→c.St s'→Rep c.V s'.heap p v→Q v s')→wpAny (model pw c.w) A (eval (.Constant k n p2) c.env) Q E s)(hk:Storable c x)(hsw:swapsWith (.Constant k n p2) (some (.Name x p1)) p3.line c.env=pure false):
 ∀(A:Around) (Q:Flow→Shared→Prop) (E:Value→Shared→Prop),(∀s₁ s',Kp c.lam s s₁→(c.set x p).St s'→KpF c.lam c.fr s₁ s'→Q .next s')→wpAny (model pw c.w) A (execs [.Assign [.Name x p1] (.Constant k n p2) p3] c.env) Q E s:=fun A Q E h=>by
 refine wpAny_execs_cons ?_
 rw[exec_Assign_Name _ _ _ _ _ hsw]
 refine wpAny_bind (wpAny_standAt (wpAny_bind (he A _ _ fun s₁ k₁ st₁ r₁=> ?_)))
 exact wpAny_bind (wpAny_standAt (wpAny_bind (wpAny_bindName (Zj st₁ r₁ hk fun s₂ st₂ k₂=>wpAny_pure (wpAny_execs_nil (h s₁ s₂ k₁ st₂ k₂))))))
end
theorem YJ.inst3{h:Heap}{sx dx hl:Addr}(x:YJ h sx dx hl):∃ox od,InstAt h sx ox 388 od∧shadowIn od "get_all"=some false∧shadowIn od "items"=some false∧shadowIn od "add_header"=some false:=by
 obtain⟨sl,h1⟩:=x.obj
 obtain⟨hash,t,n,h2⟩:=x.dict
 exact⟨_,some (dictOf [⟨hash,.str "_headers" t,.ref hl⟩] n),⟨h1,rfl,rfl,h2⟩,by kernel_rfl,by kernel_rfl,by kernel_rfl⟩
theorem Fl.mv{T fr:List Addr}{a:Addr}{s s':Shared}(k:Fl T (a::fr) s s'):Fl (a::T) fr s s':=⟨k.1.sub fun b hb=>by
 simp only[List.mem_append,List.mem_cons]at hb ⊢
 rcases hb with q |q |q
 ·exact .inl (.inr q)
 ·exact .inl (.inl q)
 ·exact .inr q,fun b hb o e=>k.2 b (List.mem_cons_of_mem _ hb) o e⟩
theorem xf_fl{P:Params}{L sx dx hl:Addr}{V:List Addr}{H:List (Str×Str)}{fr:List Addr}{s s':Shared}(hd:∀b∈fr,439≤b∧∃o es n,s.heap.get? b=some o∧o.data= .dict es n)(hdx:dx∉fr)(x:XF P L sx dx hl V H s)(k:Fl [] fr s s'):XF P L sx dx hl V H s':=by
 obtain⟨x1,x2,x3⟩:=x
 have kk:∀b o,b∉fr→s.heap.get? b=some o→s'.heap.get? b=some o:=fun b o m e=>k.1.get0 (by simpa using m) e
 have nd:∀{b:Addr} {o:Obj},s.heap.get? b=some o→(∀es n,o.data≠.dict es n)→b∉fr:=fun{b o} e hn m=>by
  obtain⟨_,o',es,n,e',h⟩:=hd b m
  rw[e]at e';cases e'
  exact hn es n h
 refine⟨x1.at fun b o h9 hb e=> ?_,x2.mono fun b d y n hb e=>kk b _ (nd e fun es n q=>by cases q) e,?_⟩
 ·rcases hb with rfl |rfl
  ·obtain⟨sl,e2⟩:=x1.obj
   exact kk _ _ (nd e2 fun es n q=>by cases q) e
  ·exact kk _ _ hdx e
 ·obtain⟨ps,a,b,cc⟩:=x3
  refine⟨ps,kk _ _ (nd a fun es n q=>by cases q) a,b,fun pos cv e=> ?_⟩
  obtain⟨c',o,cvs,t,rfl,h9,hc,e1,e2,e3⟩:=cc pos cv e
  exact⟨c',o,cvs,t,rfl,h9,hc,kk _ _ (nd e1 fun es n q=>by rw[e2]at q;cases q) e1,e2,e3⟩
theorem enter_cellsL{w:World}{g:Nat→Obj}{l:Bool}{V:List Addr}{A:Around}{a:Addr}{o:Obj}{fd:FuncData}{body:List Stmt}{args:List Value}{binds:List (Str×Value)}{ρb:List (Str×PV)}{X:Shared→Prop}{s:Shared}{Q E:Value→Shared→Prop}{L:Addr}(hL:L=s.heap.objs.size)
(hh:A.handled=none)(hroom:A.depth<recursionLimit)(B:Base w g s)(hV:Yd V s.heap)(ho:s.heap.get? a=some o)(hd:o.data= .func fd)(hcd:s.heap.CodeRec fd.code fd.qualname)
(hbody:fd.body= .stmts body)(hbind:bindArgs fd ⟨args,[]⟩=pure binds)(hclo:fd.closure=[])(hloc:∀x∈binds,fd.scope.names.lookup x.1=some .local∨(fd.scope.names.lookup x.1=some .cell∧((cellsFrom 0 fd.scope.names []).lookup x.1).isSome=true))
(hgl:fd.globals=mainGlobals)(hbl:fd.builtins=builtinsNs)(hco:fd.scope.isCoroutine=false)(hgen:fd.scope.isGenerator=false)(hk:fd.scope.kind= .function)
(hb:∀x q,ρb.lookup x=some q→∃v,binds.reverse.lookup x=some v∧Rep V s.heap q v)
(hX:∀s₁ s',X s₁→KpF l (L::(cellsFrom (L+1) fd.scope.names []).map (fun x:Str×Addr=>x.2)) s₁ s'→X s')(hXs:X s)
(h:∀(s₁:Shared) (kw':Kp false s s₁),Cx.St (Cx.wr {w:=w,g:=g,A:=A.deeper (callEnvC fd L a),env:=callEnvC fd L a,ρ:=[],lam:=l,V:=V,X:=X,hX:=hX,hh:=hh,kind:=hk,globs:=hgl,blts:=hbl,ground:=Xs w g} ρb) s₁→
   wpAny (model pw w) (A.deeper (callEnvC fd L a)) (execs body (callEnvC fd L a)) (fun f s'=>Q (UQ f) s')
    (fun e s'=>wpAny (model pw w) (A.deeper (callEnvC fd L a)) (leaving (callEnvC fd L a) e) (fun _ s''=>E e s'') (fun e' s''=>E e' s'') s') s₁):
 wpAny (model pw w) A (PySem.call (.ref a) args) Q E s:=by
 subst hL
 exact ZF hh hroom B hV ho hd hcd hbody hbind hclo hloc hgl hbl hco hgen hk hb hX hXs fun s₁ k _ st=>h s₁ k st
theorem wp_tryP{P:Prop}{w:World}{A:Around}{env:Env}{outer:List Env}{L:Addr}{base:Heap}{s:Shared}{body suite:List Stmt}{b₀:Stmt}{np hp pos:Pos}{Q:Flow→Shared→Prop}{E:Value→Shared→Prop}(hfr:A.frames=some (env::outer))(hf:env.frame=some L)
(hbody:wpAny (model pw w) A (execs body env) (fun f s₁=>match f with | .next=>Q .next s₁ |f=>Q f s₁) (fun e s'=>P∧Thrown base (env::outer) s e s') s)
(hname:P→∀(A':Around) h' tk,base.StaysIn h'→s.heap.UpToSlots h'→wpAny (model pw w) A' (eval (.Name "ValueError" np) env) (fun c s₂=>c= .type "ValueError"∧s₂={s with heap:=h',toks:=tk}) (fun _ _=>False) {s with heap:=h',toks:=tk})
(hsuite:P→∀(A':Around) h' tk,base.StaysIn h'→s.heap.UpToSlots h'→wpAny (model pw w) A' (execs (b₀::suite) env) Q (fun _ _=>False) {s with heap:=h',toks:=tk}):
 wpAny (model pw w) A (exec (.Try body [.ExceptHandler (some (.Name "ValueError" np)) none (b₀::suite) hp] [] [] pos) env) Q E s:=by
 refine wpAny_Try_except (wpAny_mono hbody (fun f s₁ q=> ?_) fun e s' T=> ?_)
 ·cases f<;>first |exact wpAny_execs_nil q |exact q
 ·obtain⟨hp,ea,t,h',tk,rfl,rfl,fl,up⟩:=T
  refine wpAny_looks_onW hfr hf fl fun h₄ held₄ up₄=>wpAny_landsW held₄ fun h₅ fl₅ up₅=> ?_
  obtain⟨ob,hob,hobc⟩:=fl₅.there
  have u5:=(up.trans up₄).trans up₅
  refine wpAny_handleBy_builtin (X:="ValueError") (T:="ValueError") (b:=true) PySem.F.isExc_ValueError PySem.F.notTuple_ValueError (by rw[isSubtype_type];kernel_rfl) (wpAny_mono (hname hp _ h₅ tk fl₅.1 u5) (fun c s₂ q=> ?_) fun _ _ x=>x.elim)
  obtain⟨rfl,rfl⟩:=q
  refine⟨rfl,⟨ob,hob,hobc⟩,?_⟩
  rw[if_pos rfl]
  exact lands_againW fl₅ fun h₆ fl₆ up₆=>wpAny_mono (hsuite hp _ h₆ tk fl₆.1 (u5.trans up₆)) (fun _ _ x=>x) fun _ _ x=>x.elim
theorem kv_snd(R:List (Str×Str))(lo hi:Option Nat):((sl (Xf R) lo hi).filter fun _=>true).map sndS=(sl R lo hi).map fun p=>.str p.2:=by
 rw[List.filter_eq_self.mpr (fun _ _=>rfl)]
 unfold Xf sl
 rw[←List.map_drop,←List.map_take,List.map_map,List.length_map]
 rfl
theorem prep_len(x:Str):(prep x).length≤18*x.length:=by
 unfold prep
 rw[Jx]
 have h1:=weight (x.cps.toList.filter fun n=> !b1 n)
 have h2:(x.cps.toList.filter fun n=> !b1 n).length≤x.cps.toList.length:=List.length_filter_le _ _
 exact Nat.le_trans h1 (Nat.mul_le_mul_left 18 h2)
theorem Ub{c:Cx}{ρ:List (Str×PV)}{x:Str}{p:PV}{s:Shared}(h:((c.wr ρ).set x p).St s):(c.wr ((x,p)::ρ)).St s:=h
theorem Wp{w:World}{g:Nat→Obj}{A:Around}{L sx dx hl:Addr}{V:List Addr}{H:List (Str×Str)}{hX hh}{ρ:List (Str×PV)}{a b:Shared}(h9L:439≤L)(st:((fdCx w g A L V (XF w.params L sx dx hl V H) hX hh).wr ρ).St a)(k:KpF false [425] a b)(T:TabG (L::(L+1)::V) b.heap 425 (q425 w.params)):((fdCx w g A L V (XF w.params L sx dx hl V H) hX hh).wr ρ).St b:=by
 have h1:(425:Nat)≠L:=fun e=>absurd (e▸h9L:(439:Nat)≤425) (by decide)
 have h2:(425:Nat)≠L+1:=fun e=>absurd (e▸Nat.le_succ_of_le h9L:(439:Nat)≤425) (by decide)
 have X:XF w.params L sx dx hl V H a:=st.2.2
 have X':XF w.params L sx dx hl V H b:=⟨X.1.at fun b o h9 _ e=>k.get (Xv h9) (fun m=>by rw[List.mem_singleton.mp m]at h9;exact absurd h9 (by decide)) e,X.2.1.mono fun b d y n hb e=>k.get0 (fun m=>by
       rw[List.mem_singleton]at m
       have:=Xu hb
       rw[m]at this
       exact absurd this (by decide)) e,T⟩
 have ap:Apart (callEnvC (fdOf (o428 w.params)) L 428) [425]:=⟨fun m=>h1 (List.mem_singleton.mp m).symm,fun y cc hy m=>by
  have hm:=Zu hy
  have hm:cc∈([L+1]:List Addr):=hm
  rw[List.mem_singleton]at hm m
  exact h2 (m.symm.trans hm)⟩
 have st':=St.moveT (X:=XF w.params L sx dx hl V H) (hX:=hX) st k (.inr fun b hb=>.inr (by rw[List.mem_singleton.mp hb];rfl)) (fun b hb=>.inr (by rw[List.mem_singleton.mp hb];rfl)) ap (fun b hb h=>by rw[List.mem_singleton.mp hb]at h;exact absurd h (by decide)) X'
 exact st'
theorem found_ok{w:World}{g:Nat→Obj}(hg:Facts w g){R H:List (Str×Str)}{x:Str}(hx:x.length≤3)(hR:R.length≤100)(hRs:∀p∈R,p.1.length≤1000)(hH:H.length≤100)(hHs:∀p∈H,(Txt.lower p.1).length≤1000)
{A:Around}(hh:A.handled=none)(hdep:A.depth+5<recursionLimit){V:List Addr}{s:Shared}{sx dx hl:Addr}{rv xv:Value}(B:Base w g s)(hV:Yd V s.heap)(Hd:YJ s.heap sx dx hl)(hr:Rep V s.heap (kvPV H) (.ref hl))(hrv:Rep V s.heap (kvPV R) rv)(hxv:Rep V s.heap (.str x) xv)
(hT:TabG V s.heap 425 (q425 w.params)){outer:List Env}(hfr:A.frames=some outer)(ho:Outer s outer)(hdo:dx∉frs outer):
 wpAny (model pw w) A (PySem.call (.ref 428) [rv,.ref sx,xv]) (fun v s'=>Rep V s'.heap (JV R H x) v∧Fl [425] (frs outer) s s'∧TabG V s'.heap 425 (q425 w.params)) (fun _ _=>False) s:=by
 refine ZK fun Q hQ=> ?_
 obtain⟨L,hL⟩:∃L,L=s.heap.objs.size:=⟨_,rfl⟩
 have h9L:439≤L:=by rw[hL];exact B.size
 have hLn:s.heap.get? L=none:=by rw[hL];exact Yc _
 have hL1n:s.heap.get? (L+1)=none:=Zf (by rw[hL];exact Nat.le_succ _)
 obtain⟨sl0,hsx⟩:=Hd.obj
 obtain⟨hsh,htk,hnn,hdx⟩:=Hd.dict
 have nsx:sx≠L∧sx≠L+1:=⟨Yl hsx hLn,Yl hsx hL1n⟩
 have ndx:dx≠L∧dx≠L+1:=⟨Yl hdx hLn,Yl hdx hL1n⟩
 have hG:∀b∈L::(cellsFrom (L+1) (fdOf (o428 w.params)).scope.names []).map (fun x:Str×Addr=>x.2),b=L∨b=L+1∨Xp b=true∧b≠425:=fun b hb=>by
  rw[fd_hcells]at hb
  rcases mem2 hb with rfl |rfl
  ·exact .inl rfl
  ·exact .inr (.inl rfl)
 have hX:∀s₁ s',XF w.params L sx dx hl V H s₁→KpF false (L::(cellsFrom (L+1) (fdOf (o428 w.params)).scope.names []).map (fun x:Str×Addr=>x.2)) s₁ s'→XF w.params L sx dx hl V H s':=fun s₁ s' x k=>Vg h9L hG nsx ndx x k
 have hXs:XF w.params L sx dx hl V H s:=⟨Hd,hr.sub fun b d x n hb e=>Yx (Xu hb) fun m=>by
  rcases List.mem_cons.mp m with q |m
  ·rw[q,hLn]at e;cases e
  rcases List.mem_cons.mp m with q |m
  ·rw[q,hL1n]at e;cases e
  ·exact XM hb m,hT.re fun b hb=>by
   rcases Xz.mp hb with rfl |hb
   ·exact .inr (.inl hLn)
   rcases Xz.mp hb with rfl |hb
   ·exact .inr (.inl hL1n)
   ·exact .inl hb⟩
 have notO:∀b∈frs outer,b∉[L,L+1,425]:=fun b hb m=>by
  obtain⟨env,he,hf⟩:=List.mem_filterMap.mp hb
  obtain⟨_,L',o,es,n,hf',h9,e,hd⟩:=ho env he
  rw[hf]at hf'
  cases hf'
  rcases mem3 m with rfl |rfl |rfl
  ·rw[hLn]at e;cases e
  ·rw[hL1n]at e;cases e
  ·exact absurd h9 (by decide)
 have fin:∀{s'},Fl [L,L+1,425] (frs outer) s s'→Fl [425] (frs outer) s s':=fun k=>k.drop fun b hb hn=>by
  simp only[List.mem_cons,List.not_mem_nil,or_false]at hb hn
  rcases hb with rfl |rfl |rfl
  ·exact hLn
  ·exact hL1n
  ·exact absurd rfl hn
 have out:∀{h:Heap},TabG (L::(L+1)::V) h 425 (q425 w.params)→TabG V h 425 (q425 w.params):=fun t=>t.re fun b hb=>.inl (.tail _ (.tail _ hb))
 refine enter_cellsL hL (l:=false) (V:=V) (ρb:=[("row",kvPV R),("table",.val (.ref sx)),("typed",.str x)]) (X:=XF w.params L sx dx hl V H) (fd:=fdOf (o428 w.params)) (body:=fdB (stN 34)) (o:=o428 w.params) (binds:=[("row",rv),("table",.ref sx),("typed",xv)]) hh (Nat.lt_of_le_of_lt (Nat.le_add_right _ 5) hdep) B hV (B.1 428 _ rfl (by kernel_rfl)) (by kernel_rfl)
  ⟨427,o427 w.params,Xn (o427 w.params),3048,by kernel_rfl,B.1 427 _ rfl (by kernel_rfl),by kernel_rfl,by kernel_rfl⟩ (by kernel_rfl) (by kernel_rfl) (by kernel_rfl) ?_ (by kernel_rfl) (by kernel_rfl) (by kernel_rfl) (by kernel_rfl) (by kernel_rfl) ?_ hX hXs ?_
 ·intro y hy
  have hall:((["row","table","typed"]:List Str).all fun y=>decide ((fdOf (o428 w.params)).scope.names.lookup y=some .local))=true:=by kernel_rfl
  refine .inl (of_decide_eq_true (List.all_eq_true.mp hall y.1 ?_))
  rcases mem3 hy with rfl |rfl |rfl<;>repeat constructor
 ·intro y q hy
  rcases lkc hy with⟨rfl,rfl⟩ |hy
  ·exact⟨rv,by kernel_rfl,hrv⟩
  rcases lk2 hy with⟨rfl,rfl⟩ | ⟨rfl,rfl⟩
  ·exact⟨.ref sx,by kernel_rfl,Xy⟩
  ·exact⟨xv,by kernel_rfl,hxv⟩
 intro s₁ k₁ st
 let e₁:Env:=callEnvC (fdOf (o428 w.params)) L 428
 let A₁:Around:=A.deeper e₁
 let X₀:Shared→Prop:=XF w.params L sx dx hl V H
 let c:Cx:=fdCx w g A L V X₀ hX hh
 let ρ₁:List (Str×PV):=[("row",kvPV R),("table",.val (.ref sx)),("typed",.str x)]
 have st:(c.wr ρ₁).St s₁:=st
 have go:=Xx st
 refine go _ _ _ ?_
 have hA:(A₁).frames=some (e₁::outer):=Around.frames_deeper hfr
 have hbody:fdB (stN 34)=fdB (stN 34):=rfl
 conv at hbody=>rhs;whnf
 rw[hbody]
 have hp1:=Nat.le_trans (prep_len x) (Nat.mul_le_mul_left 18 hx)
 have l3:∀n:Nat,n≤1000→n≤sizeLine:=fun n h=>Nat.le_trans h (by decide +kernel)
 have sub:∀{a b:Shared},KpF false (e₁.locals::e₁.cells.map (·.2)) a b→Fl [L,L+1,425] (frs outer) a b:=fun{a b} k=>Fl.of (k.sub fun b hb=>by
  have hb':b∈([L,L+1]:List Addr):=hb
  simp only[List.mem_cons,List.not_mem_nil,or_false]at hb' ⊢
  rcases hb' with q |q
  ·exact .inl q
  ·exact .inr (.inl q)) notO
 have f₁:Fl [L,L+1,425] (frs outer) s s₁:=.kp k₁
 refine Ji st (.str (prep x)) (KS (o:=o416 w.params) (fn_prepared w g hg x (Nat.le_trans hx (by decide))) (Xc (Xa rfl rfl rfl rfl) Xd rfl) (.inl rfl) (deep (n:=4) hdep (by decide)) rfl rfl rfl (by kernel_rfl) (by kernel_rfl) rfl ⟨_,rfl⟩) (.inl rfl) rfl fun s₂ st₂ k₂=> ?_
 let ρ₂:List (Str×PV):=("head",.str (prep x))::ρ₁
 have st₂:(c.wr ρ₂).St s₂:=st₂
 have go₂:=Xx st₂
 refine go₂ _ _ _ ?_
 have f₂:=f₁.trans (sub k₂)
 have evbar:∀{ρ:List (Str×PV)} {p1 p2 p3:Pos},ρ.lookup (Str.ofString "head")=some (PV.str (prep x))→EvOk (c.wr ρ) (.Call (.Name "_law_bar" p1) [.Name "head" p2] [] p3) (.int (barL (prep x).cps.toList)):=fun hρ=>
  KS (o:=o423 w.params) (fn_bar w g hg (prep x)) (Xc (Xa hρ rfl rfl rfl) Xd rfl) (.inl rfl) (deep (n:=4) hdep (by decide)) rfl rfl rfl (by kernel_rfl) (by kernel_rfl) rfl ⟨_,rfl⟩
 refine Ye (b:=barL (prep x).cps.toList !=0) st₂ (Xj (p:=.int (barL (prep x).cps.toList)) (q:=.int 0) (evbar rfl) Xe KD rfl) fun s₃ st₃ k₃=> ?_
 have f₃:=f₂.trans (.kp k₃)
 by_cases hbar:barL (prep x).cps.toList=0
 case neg=>
  have e1:(barL (prep x).cps.toList !=0)=true:=by simpa using hbar
  rw[e1,if_pos rfl]
  refine wpAny_execs_cons (Vh (Xh (evbar rfl)) st₃ fun f s₄ o₄ k₄=> ?_)
  obtain⟨v,rfl,hv⟩:=o₄
  refine hQ _ _ ⟨?_,fin (f₃.trans (sub k₄)),out (Vg h9L hG nsx ndx st₃.2.2 k₄).2.2⟩
  unfold JV
  rw[if_pos hbar]
  exact hv
 case pos=>
 have e1:(barL (prep x).cps.toList !=0)=false:=by simpa using hbar
 rw[e1,if_neg Bool.false_ne_true]
 refine wpAny_execs_nil ?_
 have hres:JV R H x= .tup [.lst ((sl R (some (Zo R (prep x))) (some (Zv R (prep x)))).map fun p=>.str p.2),Kv H (prep x)]:=by
  unfold JV
  rw[if_neg (by simpa using hbar)]
 refine Ji st₃ (.int ((prep x).length:Nat)) ?_ (.inr ⟨rfl,rfl⟩) rfl fun s₄ st₄ k₄=> ?_
 ·exact XQ (fv:=.builtin "len") (ps:=[.str (prep x)]) (Xm rfl (by kernel_rfl) (by kernel_rfl) rfl) (Xc (Xa rfl rfl rfl rfl) Xd rfl) rfl (.inl ⟨_,rfl⟩) (call_len_str (Nat.lt_of_le_of_lt hp1 (by decide)))
 let ρ₄:List (Str×PV):=("width",.int ((prep x).length:Nat))::ρ₂
 have st₄:(c.wr ρ₄).St s₄:=st₄
 have go₄:=Xx st₄
 refine go₄ _ _ _ ?_
 have f₄:=f₃.trans (sub k₄)
 have len1:∀(K:List (Str×Str)) (p:PV),p∈Xf K→∃q∈K,p= .tup [.str q.1,.str q.2]:=fun K p hp=>by
  obtain⟨q,hq,rfl⟩:=List.mem_map.mp hp
  exact⟨q,hq,rfl⟩
 have m425:∀{p v} {a b:Shared},KpF false [425] a b→Rep V a.heap p v→Rep V b.heap p v:=fun k r=>r.mono fun b d y n hb e=>k.get0 (fun m=>by
  rw[List.mem_singleton]at m
  have:=Xu hb
  rw[m]at this
  exact absurd this (by decide)) e
 refine Zy st₄ (.inl rfl) rfl (KI (fv:=.ref 202) (K:=[(202,o202 w.params)]) st₄ (XA rfl (by kernel_rfl) rfl) (fun s' st'=>XD st'.1 fun p hp=>by rw[List.mem_singleton]at hp;subst hp;exact⟨rfl,by kernel_rfl⟩) (by kernel_rfl) (ps:=[kvPV R,.str (prep x)]) (Xc (Xa rfl rfl rfl rfl) (Xc (Xa rfl rfl rfl rfl) Xd rfl) rfl) rfl fun vs s₅ r₅ k₅ st₅=> ?_)
 obtain⟨v1,v2,h1,h2⟩:=Wi r₅
 refine fd_lam (n:=(prep x).length) st₅ rfl h9L st₅.2.2.2.2 fun fa objs s₆ k₆ T₆ xo₆ key₆ fun₆ o9₆=>⟨?_,?_⟩
 ·exact XD (Wp h9L st₅ k₆ T₆).1 fun p hp=>by rw[List.mem_singleton]at hp;subst hp;exact⟨rfl,by kernel_rfl⟩
 have st₆:(c.wr ρ₄).St s₆:=Wp h9L st₅ k₆ T₆
 refine wpAny_mono (bisL_ok (A:=A₁) (l:=false) (V:=V) (ps:=Xf R) (f:=cutK (prep x).length) (x:=prep x) (lo:=0) (lv:=.int 0 2665) (by unfold Xf;rw[List.length_map];exact Nat.le_trans hR (by decide)) (Nat.zero_le _) (fun p hp=> ?_) fun₆ o9₆ hh (show A.depth+1+(1+1)<recursionLimit from dep2 hdep (by decide)) st₆.1 st₆.2.1.vol xo₆ (m425 k₆ h1) (m425 k₆ h2) YG (fun S=>by kernel_rfl)) (fun v s₇ q=> ?_) fun _ _ x=>x.elim
 ·obtain⟨q,hq,rfl⟩:=len1 R p hp
  exact key₆ q.1 q.2 (Nat.le_trans (hRs q hq) (by decide))
 obtain⟨⟨t₇,rfl⟩,k₇⟩:=q
 have st₇:=st₆.kp k₇
 have f₇:=(((f₄.trans (.kp k₅)).trans (.of (k₆.sub fun b hb=>by rw[List.mem_singleton.mp hb];simp) notO)).trans (.kp k₇))
 have to₇:=XS (x:="low") (p:=.int (Zo R (prep x):Nat)) (v:=.int (Zo R (prep x):Nat) t₇) st₇ YG (.inl rfl)
 refine to₇ _ _ _ fun s₈ st₈ k₈=> ?_
 let ρ₈:List (Str×PV):=("low",.int (Zo R (prep x):Nat))::ρ₄
 have st₈:(c.wr ρ₈).St s₈:=st₈
 have go₈:=Xx st₈
 refine go₈ _ _ _ ?_
 have f₈:=f₇.trans (sub k₈)
 have hlow:Zo R (prep x)≤(Xf R).length:=VD _ _ _ _ _ (Nat.zero_le _) (Nat.le_refl _)
 refine Zy st₈ (.inl rfl) rfl (KI (fv:=.ref 193) (K:=[(193,o193 w.params)]) st₈ (XA rfl (by kernel_rfl) rfl) (fun s' st'=>XD st'.1 fun p hp=>by rw[List.mem_singleton]at hp;subst hp;exact⟨rfl,by kernel_rfl⟩) (by kernel_rfl) (ps:=[kvPV R,.str (prep x),.int (Zo R (prep x):Nat)]) (Xc (Xa rfl rfl rfl rfl) (Xc (Xa rfl rfl rfl rfl) (Xc (Xa rfl rfl rfl rfl) Xd rfl) rfl) rfl) rfl fun vs s₉ r₉ k₉ st₉=> ?_)
 obtain⟨w1,w2,w3,g1,g2,g3⟩:=Ws r₉
 refine fd_lam (n:=(prep x).length) st₉ rfl h9L st₉.2.2.2.2 fun fb objs2 s₁₀ k₁₀ T₁₀ xo₁₀ key₁₀ fun₁₀ o9₁₀=>⟨?_,?_⟩
 ·exact XD (Wp h9L st₉ k₁₀ T₁₀).1 fun p hp=>by rw[List.mem_singleton]at hp;subst hp;exact⟨rfl,by kernel_rfl⟩
 have st₁₀:(c.wr ρ₈).St s₁₀:=Wp h9L st₉ k₁₀ T₁₀
 refine wpAny_mono (bisR_ok (A:=A₁) (l:=false) (V:=V) (ps:=Xf R) (f:=cutK (prep x).length) (x:=prep x) (lo:=Zo R (prep x)) (lv:=w3) (by unfold Xf;rw[List.length_map];exact Nat.le_trans hR (by decide)) hlow (fun p hp=> ?_) fun₁₀ o9₁₀ hh (show A.depth+1+(1+1)<recursionLimit from dep2 hdep (by decide)) st₁₀.1 st₁₀.2.1.vol xo₁₀ (m425 k₁₀ g1) (m425 k₁₀ g2) (m425 k₁₀ g3) (fun S=>by kernel_rfl)) (fun v s₁₁ q=> ?_) fun _ _ x=>x.elim
 ·obtain⟨q,hq,rfl⟩:=len1 R p hp
  exact key₁₀ q.1 q.2 (Nat.le_trans (hRs q hq) (by decide))
 obtain⟨⟨t₁₁,rfl⟩,k₁₁⟩:=q
 have st₁₁:=st₁₀.kp k₁₁
 have f₁₁:=(((f₈.trans (.kp k₉)).trans (.of (k₁₀.sub fun b hb=>by rw[List.mem_singleton.mp hb];simp) notO)).trans (.kp k₁₁))
 have to₁₁:=XS (x:="high") (p:=.int (Zv R (prep x):Nat)) (v:=.int (Zv R (prep x):Nat) t₁₁) st₁₁ YG (.inl rfl)
 refine to₁₁ _ _ _ fun s₁₂ st₁₂ k₁₂=> ?_
 let ρ₁₂:List (Str×PV):=("high",.int (Zv R (prep x):Nat))::ρ₈
 have st₁₂:(c.wr ρ₁₂).St s₁₂:=st₁₂
 have go₁₂:=Xx st₁₂
 refine go₁₂ _ _ _ ?_
 have f₁₂:=f₁₁.trans (sub k₁₂)
 let env:Env:=e₁
 have hfrs:frs (env::outer)=L::frs outer:=rfl
 have ho₁₂:Outer s₁₂ (env::outer):=fun e he=>by
  rcases Xz.mp he with rfl |he
  ·obtain⟨m,⟨o,es,ep,e,hd,_⟩,_⟩:=st₁₂.2.1.ns
   exact⟨by kernel_rfl,L,o,_,_,rfl,h9L,e,hd⟩
  ·exact ho.fl f₁₂ e he
 have hdict:∀b∈frs (env::outer),439≤b∧∃o es n,s₁₂.heap.get? b=some o∧o.data= .dict es n:=fun b hb=>by
  obtain⟨e,he,hf⟩:=List.mem_filterMap.mp hb
  obtain⟨_,L',o,es,n,hf',h9,e',hd⟩:=ho₁₂ e he
  rw[hf]at hf'
  cases hf'
  exact⟨h9,o,es,n,e',hd⟩
 have hcell:∀y a,env.cells.lookup y=some a→a∉frs (env::outer):=fun y a hy m=>by
  obtain⟨_,v,oc,hoc,hdc⟩:=st₁₂.2.1.there y a hy
  obtain⟨_,o,es,n,e,hd⟩:=hdict a m
  rw[hoc]at e;cases e
  rw[hdc]at hd;cases hd
 have hdx':dx∉frs (env::outer):=fun m=>by
  rw[hfrs]at m
  rcases List.mem_cons.mp m with q |q
  ·exact ndx.1 q
  ·exact hdo q
 have hl1:=len_upper (prep x)
 have hl3:(Txt.lower (Txt.upper (prep x))).length≤1000:=by have hl2:=len_lower (Txt.upper (prep x));lia
 have upst:∀h' tk,(hideAll s₁₂.heap (frs (env::outer))).StaysIn h'→s₁₂.heap.UpToSlots h'→(c.wr ρ₁₂).St {s₁₂ with heap:=h',toks:=tk}:=fun h' tk h1 h2=>by
  have k:=Wn (tk:=tk) ho₁₂ h1 h2
  have st':=St.upK (X:=X₀) (hX:=hX) st₁₂ ho₁₂ (fun b hb=>by cases hb) k hcell (xf_fl hdict hdx' st₁₂.2.2 k)
  exact st'
 refine Xq (wpAny_mono (wp_tryP (P:=(Txt.lower (Txt.upper (prep x))).cps.toList.any nmP=true) (Q:=fun f s'=>f= .next∧(c.wr (("same",Kv H (prep x))::ρ₁₂)).St s'∧Fl [L,L+1,425] (frs outer) s s') (E:=fun _ _=>False) (outer:=outer) (L:=L) (base:=hideAll s₁₂.heap (frs (env::outer))) hA rfl ?_ (fun hP A' h' tk h1 h2=> ?_) fun hP A' h' tk h1 h2=> ?_) (fun f s' q=> ?_) fun _ _ x=>x.elim)
 ·refine Zy st₁₂ (.inl rfl) rfl (wp_methN (f:=327) (sx:=sx) (C:=388) (K:=KHd w.params) (ps:=[.str (Txt.upper (prep x))]) st₁₂ (Xa rfl rfl rfl rfl) (fun s' st'=>YU st'.1) (fun s' st'=> ?_) (by kernel_rfl) (by kernel_rfl) (by kernel_rfl) (by kernel_rfl) (by kernel_rfl) rfl rfl (Xc (ev_upper (x:=prep x) (Xa rfl rfl rfl rfl) rfl rfl (fit_upper (Nat.le_trans hp1 (by decide)))) Xd rfl) rfl rfl fun vs s₁₃ r₁₃ k₁₃ st₁₃=> ?_)
  ·obtain⟨ox,od,I,h,_⟩:=st'.2.2.1.inst3
   exact⟨ox,od,I,h⟩
  obtain⟨u1,g1⟩:=Uv r₁₃
  have X₁₃:X₀ s₁₃:=st₁₃.2.2
  have hH':Rep V s₁₃.heap (kvPV H) (.ref hl):=X₁₃.2.1.sub fun b d y n hb e=>Yx (Xu hb) fun m=>XM hb (.tail _ (.tail _ m))
  have f₁₃:=f₁₂.trans (.kp k₁₃)
  cases hP:(Txt.lower (Txt.upper (prep x))).cps.toList.any nmP with
  |false=>
   have hsame:Kv H (prep x)= .lst ((H.filter fun p=>Txt.lower p.1==Txt.lower (Txt.upper (prep x))).map fun p=>.str p.2):=by
    unfold Kv
    rw[hP,if_neg Bool.false_ne_true]
   refine wpAny_mono (getall_ok (l:=false) (A:=A₁) (V:=V) hH hl3 hHs hP hh (show A.depth+1+2<recursionLimit from dep2 hdep (by decide)) st₁₃.1 st₁₃.2.1.vol X₁₃.1 hH' g1) (fun v s₁₄ q=> ?_) fun _ _ x=>x.elim
   rw[←hsame]at q
   have st₁₄:=st₁₃.kp q.2
   have to₁₄:=XS (x:="same") (p:=Kv H (prep x)) (v:=v) st₁₄ q.1 (.inl rfl)
   refine to₁₄ _ _ _ fun s₁₅ st₁₅ k₁₅=>wpAny_execs_nil ⟨rfl,st₁₅,(f₁₃.trans (.kp q.2)).trans (sub k₁₅)⟩
  |true=>
   have hkb:(hideAll s₁₂.heap (frs (env::outer))).StaysIn s₁₃.heap:=fun b o e=>k₁₃.get0 (of_hideAll _ e)
   have hfl:s₁₃.heap.FunFrames (hideAll s₁₂.heap (frs (env::outer))) (env::outer):=(ho₁₂.kp k₁₃).funs fun e he L' hf=>hideAll_none _ (UF he hf)
   refine wpAny_mono (getall_throw (A:=A₁) (V:=V) hl3 hP hh (show A.depth+1+2<recursionLimit from dep2 hdep (by decide)) st₁₃.1 st₁₃.2.1.vol X₁₃.1 g1 hA hkb hfl) (fun _ _ x=>x.elim) fun e s' T=>⟨rfl,T.from (lm:=false) k₁₃⟩
 ·have stN':=upst h' tk h1 h2
  exact name_bltX stN' rfl (by kernel_rfl) (by kernel_rfl) rfl _ _ _ _ ⟨rfl,rfl⟩
 ·have stN':=upst h' tk h1 h2
  refine asgX (c:=c.wr ρ₁₂) (x:="same") (k:=.none) (v:=.none) (p:=.none) (n:=0) stN' (fun A Q E q=>wpAny_pure (q _ (.refl _) stN' JL)) (.inl rfl) rfl _ _ _ fun s₁ s' k st' k'=> ?_
  have hsame:Kv H (prep x)= .none:=by
   unfold Kv
   rw[if_pos hP]
  rw[hsame]
  exact⟨rfl,Ub st',((f₁₂.trans ((Wn (tk:=tk) ho₁₂ h1 h2).mv.sub (fun b hb=>by
   rw[List.mem_singleton.mp hb];exact List.mem_cons_self ..))).trans (.kp k)).trans (sub k')⟩
 ·obtain⟨rfl,st',f'⟩:=q
  refine⟨rfl,?_⟩
  have go':=Xx st'
  refine go' _ _ _ ?_
  refine wpAny_execs_cons (Vh (o:=.ret (.tup [.lst ((sl R (some (Zo R (prep x))) (some (Zv R (prep x)))).map fun p=>.str p.2),Kv H (prep x)])) (Xh ?_) st' fun f s₂₀ o₂₀ k₂₀=> ?_)
  ·refine Yp (Xc ?_ (Xc (Xa rfl rfl rfl rfl) Xd rfl) rfl) (show 2≤sizeLine by decide +kernel)
   rw[←kv_snd]
   have hlen:(sl (Xf R) (some (Zo R (prep x))) (some (Zv R (prep x)))).length≤R.length:=Nat.le_trans ((List.take_sublist _ _).trans (List.drop_sublist _ _)).length_le (Nat.le_of_eq (List.length_map _))
   refine Jf (by kernel_rfl) [] [] (fun _=>true) sndS (YF (q:=.lst (sl (Xf R) (some (Zo R (prep x))) (some (Zv R (prep x))))) (YZ (q:=kvPV R) (Xa rfl rfl rfl rfl) (Yy (n:=Zo R (prep x)) (Xa rfl rfl rfl rfl)) (Yy (n:=Zv R (prep x)) (Xa rfl rfl rfl rfl)) (Jm (l:=Xf R) (by unfold Xf;rw[List.length_map];exact l3 _ (Nat.le_trans hR (by decide))))) YX) (l3 _ (Nat.le_trans (Nat.le_trans hlen hR) (by decide))) rfl (by kernel_rfl) (by kernel_rfl) rfl (fun _=>rfl) Wk no_cap ?_
   intro C V' hC i p hp
   obtain⟨q,hq,rfl⟩:=len1 R p (by
    have:=List.mem_of_getElem? hp
    unfold sl at this
    exact List.mem_of_mem_drop (List.mem_of_mem_take this))
   refine⟨[("pair",.tup [.str q.1,.str q.2])],YW rfl,ZQ,fun _=> ?_⟩
   exact XY (p:=.tup [.str q.1,.str q.2]) (q:=.int 1) (Xa rfl rfl rfl rfl) Xe (XX (by decide) (by decide) rfl) rfl
  ·obtain⟨v,rfl,hv⟩:=o₂₀
   exact hQ _ _ ⟨by rw[hres];exact hv,fin (f'.trans (sub k₂₀)),out (Vg h9L hG nsx ndx st'.2.2 k₂₀).2.2⟩
structure Wo(lt:Nat→Nat→Bool):Prop where
 asy:∀i j,lt i j=true→lt j i=false
 neg:∀i j k,lt i j=false→lt j k=false→lt i k=false
noncomputable def bf(lt:Nat→Nat→Bool)(i j:Nat):Prop:=lt i j=true∨(lt j i=false∧i<j)
theorem bf_trans{lt:Nat→Nat→Bool}(W:Wo lt){i j k:Nat}(h1:bf lt i j)(h2:bf lt j k):bf lt i k:=by
 rcases h1 with h1 | ⟨h1,l1⟩
 ·left
  cases e:lt i k with
  |true=>rfl
  |false=>
   have h3:lt k j=false:=by
    rcases h2 with h2 |h2
    ·exact W.asy _ _ h2
    ·exact h2.1
   rw[W.neg _ _ _ e h3]at h1;cases h1
 ·rcases h2 with h2 | ⟨h2,l2⟩
  ·left
   cases e:lt i k with
   |true=>rfl
   |false=>rw[W.neg _ _ _ h1 e]at h2;cases h2
  ·exact .inr ⟨W.neg _ _ _ h2 h1,Nat.lt_trans l1 l2⟩
noncomputable def Holds(lt:Nat→Nat→Bool)(n:Nat){α:Type}:KasT α→(α→Prop)→Prop
 | .ret a,Q=>Q a
 | .ask i j k,Q=>i<n∧j<n∧Holds lt n (k (lt i j)) Q
theorem Holds.mono{lt:Nat→Nat→Bool}{n:Nat}{α:Type}{Q Q':α→Prop}(hq:∀a,Q a→Q' a):∀{t:KasT α},Holds lt n t Q→Holds lt n t Q'
 | .ret a,h=>hq a h
 | .ask _ _ k,h=>⟨h.1,h.2.1,Holds.mono hq (t:=k _) h.2.2⟩
theorem Holds.bind{lt:Nat→Nat→Bool}{n:Nat}{α β:Type}{f:α→KasT β}{Q:β→Prop}:∀{t:KasT α},Holds lt n t (fun a=>Holds lt n (f a) Q)→Holds lt n (t.bind f) Q
 | .ret _,h=>h
 | .ask _ _ k,h=>⟨h.1,h.2.1,Holds.bind (t:=k _) h.2.2⟩
theorem holds_wp{lt:Nat→Nat→Bool}{n:Nat}{α:Type}{P:α→Prop}{cmp:Nat→Nat→(Bool→Shared→Prop)→Shared→Prop}{Q:α→Shared→Prop}{s:Shared}(hc:∀i j C,i<n→j<n→C (lt i j) s→cmp i j C s)(hq:∀a,P a→Q a s):∀{t:KasT α},Holds lt n t P→t.kasWp cmp Q s
 | .ret a,h=>hq a h
 | .ask i j k,h=>hc i j _ h.1 h.2.1 (holds_wp hc hq (t:=k _) h.2.2)
theorem ZE{p:Array Nat}{i j:Nat}(hj:j≤p.size)(k:Nat):(kas_rev p i j).getD k 0=if i≤k∧k<j then p.getD (i+j-1-k) 0 else p.getD k 0:=by
 have e:=getElem?_mirror_all (i:=i) hj k
 rw[Array.getD_eq_getD_getElem?]
 unfold kas_rev
 rw[e]
 split<;>rw[Array.getD_eq_getD_getElem?]
theorem getD_bub{p:Array Nat}{k d:Nat}(hk:k<p.size)(hd:d≤k)(i:Nat):(bubble p k d).getD i 0=if i=k-d then p.getD k 0 else if k-d<i∧i≤k then p.getD (i-1) 0 else p.getD i 0:=by
 have e:=getElem?_bubble hk d hd i
 have g:∀(q:Array Nat) (j:Nat),q.getD j 0=(q[j]?).getD 0:=fun q j=>Array.getD_eq_getD_getElem? ..
 rw[g,g,g,g,e]
 by_cases h1:i=k-d
 ·rw[if_pos h1,if_pos h1]
 ·rw[if_neg h1,if_neg h1]
  by_cases h2:k-d<i∧i≤k
  ·rw[if_pos h2,if_pos h2]
  ·rw[if_neg h2,if_neg h2]
structure PI(n:Nat)(p:Array Nat)(m:Nat):Prop where
 size:p.size=n
 perm:p.Perm (List.toArray (List.range n))
 tail:∀i,m≤i→i<n→p.getD i 0=i
 head:∀i,i<m→p.getD i 0<m
theorem PI.lt{n:Nat}{p:Array Nat}{m:Nat}(h:PI n p m)(hm:m≤n){i:Nat}(hi:i<n):p.getD i 0<n:=by
 rcases Nat.lt_or_ge i m with q |q
 ·exact Nat.lt_of_lt_of_le (h.head i q) hm
 ·rw[h.tail i q hi];exact hi
theorem Uh{a m i:Nat}(h:a≤i)(h':i<m):a≤a+m-1-i∧a+m-1-i<m:=by
 obtain⟨d,rfl⟩:=Nat.exists_eq_add_of_lt h'
 obtain⟨e,rfl⟩:=Nat.exists_eq_add_of_le h
 rw[show a+(a+e+d+1)-1-(a+e)=a+d from Nat.sub_eq_of_eq_add (show a+(a+e+d)=_ by rw[Nat.add_comm (a+e) d,Nat.add_assoc])]
 exact⟨Nat.le_add_right _ _,Nat.lt_succ_of_le (Nat.add_le_add_right (Nat.le_add_right _ _) _)⟩
theorem mir_lt{a m i j:Nat}(h:i<j)(hj:j<m):a+m-1-j<a+m-1-i:=Nat.sub_lt_sub_left (Nat.lt_of_lt_of_le h (Nat.le_sub_one_of_lt (Nat.lt_of_lt_of_le hj (Nat.le_add_left _ _)))) h
theorem PI.up{n:Nat}{p:Array Nat}{m:Nat}(h:PI n p m)(hm:m<n):PI n p (m+1):=⟨h.size,h.perm,fun i h1 h2=>h.tail i (Nat.le_of_succ_le h1) h2,fun i hi=>by
 rcases Nat.lt_or_ge i m with q |q
 ·exact Nat.lt_succ_of_lt (h.head i q)
 ·rw[Yv hi q,h.tail m (Nat.le_refl _) hm];exact Nat.lt_succ_self m⟩
theorem PI.rev{n:Nat}{p:Array Nat}{m:Nat}(h:PI n p m)(hm:m≤n){i j:Nat}(hj:j≤m):PI n (kas_rev p i j) m:=by
 have hs:j≤p.size:=by rw[h.size];exact Nat.le_trans hj hm
 refine⟨(mirror_size _ _ _ _).trans h.size,(mirror_perm _ _ _ _).trans h.perm,fun k h1 h2=> ?_,fun k hk=> ?_⟩
 ·rw[ZE hs,if_neg (fun x=>Nat.not_lt_of_ge (Nat.le_trans hj h1) x.2)];exact h.tail k h1 h2
 ·rw[ZE hs]
  by_cases x:i≤k∧k<j
  ·rw[if_pos x];exact h.head _ (Nat.lt_of_lt_of_le (Uh x.1 x.2).2 hj)
  ·rw[if_neg x];exact h.head _ hk
theorem PI.zero(n:Nat):PI n (List.toArray (List.range n)) 0:=⟨by simp,.refl _,fun i _ hi=>by simp[Array.getD,hi],fun i hi=>absurd hi (Nat.not_lt_zero i)⟩
noncomputable def Asc(lt:Nat→Nat→Bool)(p:Array Nat)(m:Nat):Prop:=∀i j,i<j→j<m→bf lt (p.getD i 0) (p.getD j 0)
noncomputable def Dsc(lt:Nat→Nat→Bool)(p:Array Nat)(m:Nat):Prop:=∀i j,i<j→j<m→bf lt (p.getD j 0) (p.getD i 0)
section
variable{lt:Nat→Nat→Bool}{n:Nat}
theorem Dsc.rev{p:Array Nat}{m:Nat}(h:Dsc lt p m)(hm:m≤p.size):Asc lt (kas_rev p 0 m) m:=fun i j hij hj=>by
 have hi:=Nat.lt_trans hij hj
 rw[ZE hm,ZE hm,if_pos ⟨Nat.zero_le _,hi⟩,if_pos ⟨Nat.zero_le _,hj⟩]
 exact h _ _ (mir_lt hij hj) (Uh (Nat.zero_le i) hi).2
theorem Wo.irr{lt:Nat→Nat→Bool}(W:Wo lt)(i:Nat):lt i i=false:=by
 cases z:lt i i with
 |false=>rfl
 |true=>exact(W.asy _ _ z).symm.trans z |>.symm
theorem Wo.pull{lt:Nat→Nat→Bool}(W:Wo lt){i j k:Nat}(h:lt i k=true)(h2:lt j k=false):lt i j=true:=by
 cases z:lt i j with
 |true=>rfl
 |false=>rw[W.neg _ _ _ z h2]at h;cases h
theorem Wo.push{lt:Nat→Nat→Bool}(W:Wo lt){i j k:Nat}(h:lt i k=true)(h2:lt i j=false):lt j k=true:=by
 cases z:lt j k with
 |true=>rfl
 |false=>rw[W.neg _ _ _ h2 z]at h;cases h
theorem Ur(W:Wo lt){p:Array Nat}:∀(f m:Nat),1≤m→m+f=n→PI n p m→Asc lt p m→Holds lt n (kas_asc p f m) (fun m'=>m≤m'∧m'≤n∧PI n p m'∧Asc lt p m'∧(m'<n→lt m' (p.getD (m'-1) 0)=true))
 |0,m,h1,h2,hp,ha=>⟨Nat.le_refl _,Nat.le_of_eq h2,hp,ha,fun h=>absurd h2 (Nat.ne_of_lt h)⟩
 |f+1,m,h1,h2,hp,ha=>by
  unfold kas_asc
  have mn:=UA h2
  have mle:=Nat.le_of_lt mn
  refine⟨hp.lt mle mn,hp.lt mle (Nat.lt_of_le_of_lt (Nat.sub_le m 1) mn),?_⟩
  have em:p.getD m 0=m:=hp.tail m (Nat.le_refl _) mn
  rw[em]
  cases e:lt m (p.getD (m-1) 0)with
  |true=>exact⟨Nat.le_refl _,mle,hp,ha,fun _=>e⟩
  |false=>
   refine Holds.mono (fun m' h=>⟨Nat.le_of_succ_le h.1,h.2⟩) (Ur W f (m+1) (Nat.succ_pos m) (KK h2) (hp.up mn) fun i j hij hj=> ?_)
   have m1:m-1<m:=Nat.sub_lt h1 Nat.one_pos
   have last:bf lt (p.getD (m-1) 0) m:=.inr ⟨e,hp.head _ m1⟩
   rcases Nat.lt_or_ge j m with q |q
   ·exact ha i j hij q
   ·obtain rfl:=Yv hj q
    rw[em]
    rcases Nat.lt_or_ge i (j-1)with q2 |q2
    ·exact bf_trans W (ha i (j-1) q2 m1) last
    ·rw[Nat.le_antisymm (Nat.le_sub_one_of_lt hij) q2];exact last
structure DS(lt:Nat→Nat→Bool)(n:Nat)(p:Array Nat)(m q:Nat):Prop where
 pi:PI n p m
 le:q+1≤m
 mn:m≤n
 grp:∀i,m-(q+1)≤i→i<m→p.getD i 0=i
 eq:∀i j,m-(q+1)≤i→i<m→m-(q+1)≤j→j<m→lt i j=false
 dsc:Dsc lt p (m-(q+1))
 bnd:∀i j,i<m-(q+1)→m-(q+1)≤j→j<m→lt j (p.getD i 0)=true
noncomputable def turn(p:Array Nat)(m q:Nat):Array Nat:=if q>0 then kas_rev p (m-(q+1)) m else p
theorem DS.turn{p:Array Nat}{m q:Nat}(D:DS lt n p m q):PI n (turn p m q) m∧Dsc lt (turn p m q) m∧∀i,i<m→∃j,j<m∧(Mine.turn p m q).getD i 0=p.getD j 0:=by
 have hs:m≤p.size:=by rw[D.pi.size];exact D.mn
 unfold Mine.turn
 by_cases hq:q>0
 ·rw[if_pos hq]
  refine⟨D.pi.rev D.mn (Nat.le_refl _),fun i j hij hj=> ?_,fun i hi=> ?_⟩
  ·rw[ZE hs,ZE hs]
   by_cases hi:m-(q+1)≤i
   ·have hi2:=Nat.lt_trans hij hj
    have hj2:=Nat.le_trans hi (Nat.le_of_lt hij)
    have mi:=Uh hi hi2
    have mj:=Uh hj2 hj
    rw[if_pos ⟨hj2,hj⟩,if_pos ⟨hi,hi2⟩,D.grp _ mi.1 mi.2,D.grp _ mj.1 mj.2]
    exact .inr ⟨D.eq _ _ mi.1 mi.2 mj.1 mj.2,mir_lt hij hj⟩
   ·by_cases hj2:m-(q+1)≤j
    ·have mj:=Uh hj2 hj
     rw[if_pos ⟨hj2,hj⟩,if_neg fun x=>hi x.1,D.grp _ mj.1 mj.2]
     exact .inl (D.bnd _ _ (Nat.lt_of_not_le hi) mj.1 mj.2)
    ·rw[if_neg fun x=>hj2 x.1,if_neg fun x=>hi x.1]
     exact D.dsc i j hij (Nat.lt_of_not_le hj2)
  ·rw[ZE hs]
   by_cases x:m-(q+1)≤i∧i<m
   ·rw[if_pos x];exact⟨_,(Uh x.1 x.2).2,rfl⟩
   ·rw[if_neg x];exact⟨i,hi,rfl⟩
 ·rw[if_neg hq]
  obtain rfl:=Nat.eq_zero_of_not_pos hq
  refine⟨D.pi,fun i j hij hj=> ?_,fun i hi=>⟨i,hi,rfl⟩⟩
  rcases Nat.lt_or_ge j (m-1)with q |q
  ·exact D.dsc i j hij q
  ·rw[D.grp j q hj]
   exact .inl (D.bnd _ _ (Nat.lt_of_lt_of_le hij (Nat.le_sub_one_of_lt hj)) q hj)
theorem DS.last{p:Array Nat}{m q:Nat}(D:DS lt n p m q):m-(q+1)≤m-1∧m-1<m:=⟨Nat.sub_le_sub_left (Nat.succ_pos q) m,Nat.sub_lt (Nat.lt_of_lt_of_le (Nat.succ_pos q) D.le) Nat.one_pos⟩
theorem DS.all(W:Wo lt){p:Array Nat}{m q k:Nat}(D:DS lt n p m q)(h:lt k (m-1)=true){i:Nat}(hi:i<m):lt k (p.getD i 0)=true:=by
 refine W.pull h ?_
 have l:=D.last
 rcases Nat.lt_or_ge i (m-(q+1))with z |z
 ·exact W.asy _ _ (D.bnd i (m-1) z l.1 l.2)
 ·rw[D.grp i z hi];exact D.eq _ _ z hi l.1 l.2
theorem KC(W:Wo lt):∀(f:Nat) (p:Array Nat) (m q:Nat),m+f=n→DS lt n p m q→Holds lt n (kas_desc f p m q) (fun r=>m≤r.2.1∧r.2.1≤n∧DS lt n r.1 r.2.1 r.2.2)
 |0,p,m,q,h,D=>⟨Nat.le_refl _,D.mn,D⟩
 |f+1,p,m,q,h,D=>by
  unfold kas_desc
  have mn:=UA h
  have l:=D.last
  have em:p.getD m 0=m:=D.pi.tail m (Nat.le_refl _) mn
  have em1:p.getD (m-1) 0=m-1:=D.grp _ l.1 l.2
  have m1:=Nat.lt_trans l.2 mn
  rw[em,em1]
  refine⟨mn,m1,?_⟩
  cases e:lt m (m-1)with
  |true=>
   obtain⟨T1,T2,T3⟩:=D.turn
   have D':DS lt n (turn p m q) (m+1) 0:=by
    refine⟨T1.up mn,Nat.succ_pos m,mn,fun i h1 h2=>T1.tail i h1 (Nat.lt_of_lt_of_le h2 mn),fun i j h1 h2 h3 h4=> ?_,T2,fun i j hi h1 h2=> ?_⟩
    ·rw[Yv h2 h1,Yv h4 h3];exact W.irr m
    ·obtain⟨i',hi',e2⟩:=T3 i hi
     rw[Yv h2 h1,e2]
     exact D.all W e hi'
   have D2:=KC W f _ (m+1) 0 (KK h) D'
   unfold turn at D2
   rw[apply_ite (kas_desc f · (m+1) 0)]at D2
   exact Holds.mono (fun r h=>⟨Nat.le_of_succ_le h.1,h.2⟩) D2
  |false=>
   refine⟨m1,mn,?_⟩
   cases e3:lt (m-1) m with
   |true=>exact⟨Nat.le_refl _,D.mn,D⟩
   |false=>
    refine Holds.mono (fun r h=>⟨Nat.le_of_succ_le h.1,h.2⟩) (KC W f p (m+1) (q+1) (KK h) ⟨D.pi.up mn,Nat.succ_le_succ D.le,mn,?_,?_,?_,?_⟩)<;>rw[Nat.add_sub_add_right m 1 (q+1)]
    ·intro i h1 h2
     rcases Nat.lt_or_ge i m with z |z
     ·exact D.grp i h1 z
     ·rw[Yv h2 z];exact em
    ·have a1:∀i,m-(q+1)≤i→i<m+1→lt i (m-1)=false∧lt (m-1) i=false:=fun i h1 h2=>by
      rcases Nat.lt_or_ge i m with z |z
      ·exact⟨D.eq _ _ h1 z l.1 l.2,D.eq _ _ l.1 l.2 h1 z⟩
      ·rw[Yv h2 z];exact⟨e,e3⟩
     exact fun i j h1 h2 h3 h4=>W.neg _ _ _ (a1 i h1 h2).1 (a1 j h3 h4).2
    ·exact D.dsc
    ·intro i j hi h1 h2
     rcases Nat.lt_or_ge j m with z |z
     ·exact D.bnd i j hi h1 z
     ·rw[Yv h2 z]
      exact W.push (D.bnd i (m-1) hi l.1 l.2) e3
end
section
variable{lt:Nat→Nat→Bool}{n:Nat}
noncomputable def Cnt(lt:Nat→Nat→Bool)(n:Nat)(r:Nat×Array Nat):Prop:=1≤r.1∧r.1≤n∧PI n r.2 r.1∧Asc lt r.2 r.1
theorem tail3_holds(W:Wo lt){p:Array Nat}{m:Nat}(h1:1≤m)(hm:m≤n)(hp:PI n p m)(hd:Dsc lt p m):Holds lt n (kas_tail3 m n p) (Cnt lt n):=by
 unfold kas_tail3
 exact Holds.bind (Holds.mono (fun m' h=>⟨Nat.le_trans h1 h.1,h.2.1,h.2.2.1,h.2.2.2.1⟩) (Ur W (n-m) m h1 (Nat.add_sub_cancel' hm) (hp.rev hm (Nat.le_refl _)) (hd.rev (hp.size▸hm))))
theorem descPart_holds(W:Wo lt){p:Array Nat}{m:Nat}(hm:m+1≤n)(D:DS lt n p (m+1) 0):Holds lt n (kas_descPart m n p) (Cnt lt n):=by
 unfold kas_descPart
 refine Holds.bind (Holds.mono (fun r h=> ?_) (KC W (n-(m+1)) p (m+1) 0 (Nat.add_sub_cancel' hm) D))
 obtain⟨h1,h2,D'⟩:=h
 obtain⟨T1,T2,_⟩:=D'.turn
 have:=tail3_holds W (Nat.le_trans (Nat.succ_le_succ (Nat.zero_le m)) h1) h2 T1 T2
 unfold turn at this
 rw[apply_ite (kas_tail3 r.2.1 n ·)]at this
 exact this
theorem Vn{m i:Nat}(h:i<m):m-1-i<m:=Nat.lt_of_le_of_lt (Nat.sub_le _ _) (Nat.sub_lt (Nat.zero_lt_of_lt h) Nat.one_pos)
theorem JT{i:Nat}(hi:i<n):(List.toArray (List.range n)).getD i 0=i:=(PI.zero n).tail i (Nat.zero_le _) hi
theorem count_holds(W:Wo lt)(hn:1≤n):Holds lt n (kas_count n (List.toArray (List.range n))) (Cnt lt n):=by
 unfold kas_count
 have P1:PI n (List.toArray (List.range n)) 1:=(PI.zero n).up hn
 refine Holds.bind (Holds.mono (fun m h=> ?_) (Ur W (n-1) 1 (Nat.le_refl _) (Nat.add_sub_cancel' hn) P1 fun i j h1 h2=>absurd (Nat.lt_of_lt_of_le h1 (Nat.le_of_lt_succ h2)) (Nat.not_lt_zero i)))
 obtain⟨h1,h2,hp,ha,hs⟩:=h
 have m1:m-1<m:=Nat.sub_lt h1 Nat.one_pos
 by_cases e1:m=n
 ·rw[if_pos (beq_iff_eq.mpr e1)]
  exact⟨h1,h2,hp,ha⟩
 ·rw[if_neg fun x=>e1 (beq_iff_eq.mp x)]
  have mn:=Nat.lt_of_le_of_ne h2 e1
  have m1n:=Nat.lt_trans m1 mn
  have hs':=hs mn
  rw[JT m1n]at hs'
  by_cases e2:m>1
  ·rw[if_pos e2,JT hn,JT m1n]
   refine⟨hn,m1n,?_⟩
   cases e3:lt 0 (m-1)with
   |true=>exact⟨h1,h2,hp,ha⟩
   |false=>
    have le0:∀i j,i<j→j<m→lt j i=false:=fun i j hij hj=>by
     have:=ha i j hij hj
     rw[JT (Nat.lt_trans (Nat.lt_trans hij hj) mn),JT (Nat.lt_trans hj mn)]at this
     rcases this with z |z
     ·exact W.asy _ _ z
     ·exact z.1
    -- all alike
    have eq:∀i j,i<m→j<m→lt i j=false:=fun i j hi hj=>by
     have a1:lt i 0=false:=by
      rcases Nat.eq_zero_or_pos i with z |z
      ·rw[z];exact W.irr 0
      ·exact le0 0 i z hi
     have a2:lt (m-1) j=false:=by
      rcases Nat.lt_or_ge j (m-1)with z |z
      ·exact le0 j (m-1) z m1
      ·rw[Nat.le_antisymm (Nat.le_sub_one_of_lt hj) z];exact W.irr _
     exact W.neg _ _ _ (W.neg _ _ _ a1 e3) a2
    have rv:∀i,i<m→(kas_rev (List.toArray (List.range n)) 0 m).getD i 0=m-1-i:=fun i hi=>by
     rw[ZE (show m≤_ by rw[hp.size];exact h2),if_pos ⟨Nat.zero_le _,hi⟩,Nat.zero_add,JT (Nat.lt_trans (Vn hi) mn)]
    have hp':=hp.rev h2 (i:=0) (Nat.le_refl m)
    refine descPart_holds W mn ⟨hp'.up mn,Nat.succ_pos m,mn,fun i a1 a2=>hp'.tail i a1 (Nat.lt_of_lt_of_le a2 mn),fun i j a1 a2 a3 a4=> ?_,fun i j hij hj=> ?_,fun i j hi a1 a2=> ?_⟩
    ·rw[Yv a2 a1,Yv a4 a3];exact W.irr m
    ·have hi:=Nat.lt_trans hij hj
     rw[rv i hi,rv j hj]
     exact .inr ⟨eq _ _ (Vn hi) (Vn hj),Nat.sub_lt_sub_left (Nat.lt_of_lt_of_le hij (Nat.le_sub_one_of_lt hj)) hij⟩
    ·rw[Yv a2 a1,rv i hi]
     exact W.pull hs' (eq _ _ (Vn hi) m1)
  ·rw[if_neg e2]
   obtain rfl:=Nat.le_antisymm (Nat.le_of_not_lt e2) h1
   refine descPart_holds W mn ⟨P1.up mn,Nat.succ_pos 1,mn,fun i a1 a2=>JT (Nat.lt_of_lt_of_le a2 mn),fun i j a1 a2 a3 a4=> ?_,fun i j hij hj=>absurd (Nat.lt_of_lt_of_le hij (Nat.le_of_lt_succ hj)) (Nat.not_lt_zero i),fun i j hi a1 a2=> ?_⟩
   ·rw[Yv a2 a1,Yv a4 a3];exact W.irr 1
   ·rw[Yv a2 a1,Yv hi (Nat.zero_le i),JT hn];exact hs'
theorem Asc.le(W:Wo lt){p:Array Nat}{k:Nat}(ha:Asc lt p k){i j:Nat}(hij:i<j)(hj:j<k):lt (p.getD j 0) (p.getD i 0)=false:=by
 rcases ha i j hij hj with z |z
 ·exact W.asy _ _ z
 ·exact z.1
noncomputable def Plc(lt:Nat→Nat→Bool)(p:Array Nat)(k l r:Nat):Prop:=(∀i,i<l→lt k (p.getD i 0)=false)∧∀i,r≤i→i<k→lt k (p.getD i 0)=true
theorem JN(W:Wo lt){p:Array Nat}{k:Nat}(hk:k<n)(hp:PI n p k)(ha:Asc lt p k):∀(f l r:Nat),r≤f+l→l≤r→r≤k→Plc lt p k l r→Holds lt n (kas_place p k f l r) (fun l'=>l'≤k∧Plc lt p k l' l')
 |0,l,r,h1,h2,h3,hl=>by
  obtain rfl:=Nat.le_antisymm h2 (Nat.zero_add l▸h1)
  exact⟨h3,hl⟩
 |f+1,l,r,h1,h2,h3,hl=>by
  unfold kas_place
  by_cases hlr:l≥r
  ·rw[if_pos hlr]
   obtain rfl:=Nat.le_antisymm h2 hlr
   exact⟨h3,hl⟩
  ·rw[if_neg hlr]
   have ek:p.getD k 0=k:=hp.tail k (Nat.le_refl _) hk
   rw[ek]
   obtain⟨m1,m2⟩:=Vw (Nat.lt_of_not_le hlr)
   have hmk:=Nat.lt_of_lt_of_le m2 h3
   revert m1 m2 hmk
   generalize (l+r)/2=m
   intro m1 m2 hmk
   refine⟨hk,hp.lt (Nat.le_of_lt hk) (Nat.lt_trans hmk hk),?_⟩
   cases e:lt k (p.getD m 0)with
   |true=>
    refine JN W hk hp ha f l m (Nat.le_of_lt_succ (Nat.lt_of_lt_of_le m2 (Nat.le_trans h1 (Nat.le_of_eq (Nat.succ_add f l))))) m1 (Nat.le_of_lt hmk) ⟨hl.1,fun i a b=> ?_⟩
    rcases Nat.eq_or_lt_of_le a with z |z
    ·rw[←z];exact e
    ·exact W.pull e (ha.le W z b)
   |false=>
    refine JN W hk hp ha f (m+1) r (Nat.le_trans h1 (Nat.le_trans (Nat.le_of_eq (Nat.succ_add_eq_add_succ f l)) (Nat.add_le_add_left (Nat.succ_le_succ m1) f))) m2 h3 ⟨fun i a=> ?_,hl.2⟩
    rcases Nat.lt_or_ge i m with z |z
    ·exact W.neg _ _ _ e (ha.le W z hmk)
    ·rw[Yv a z];exact e
theorem bin_holds(W:Wo lt):∀(f:Nat) (p:Array Nat) (k:Nat),k+f=n→PI n p k→Asc lt p k→Holds lt n (kas_bin f p k) (fun p'=>PI n p' n∧Asc lt p' n)
 |0,p,k,h,hp,ha=>by
  subst h
  exact⟨hp,ha⟩
 |f+1,p,k,h,hp,ha=>by
  unfold kas_bin
  have kn:=UA h
  refine Holds.bind (Holds.mono (fun l hl=> ?_) (JN W kn hp ha k 0 k (Nat.le_refl _) (Nat.zero_le _) (Nat.le_refl _) ⟨fun i a=>absurd a (Nat.not_lt_zero i),fun i a b=>absurd b (Nat.not_lt_of_ge a)⟩))
  obtain⟨h1,h2,h3⟩:=hl
  have ek:p.getD k 0=k:=hp.tail k (Nat.le_refl _) kn
  have gb:∀i,(bubble p k (k-l)).getD i 0=if i=l then k else if l<i∧i≤k then p.getD (i-1) 0 else p.getD i 0:=fun i=>by
   rw[getD_bub (hp.size▸kn) (Nat.sub_le k l),ek,Nat.sub_sub_self h1]
  have pred:∀{i},l<i→i≤k→l≤i-1∧i-1<k:=fun a b=>⟨Nat.le_sub_one_of_lt a,Nat.lt_of_lt_of_le (Nat.sub_lt (Nat.zero_lt_of_lt a) Nat.one_pos) b⟩
  have low:∀{i},¬i=l→¬(l<i∧i≤k)→i<k+1→i<l:=fun a b c=>Nat.lt_of_le_of_ne (Nat.le_of_not_lt fun x=>b ⟨x,Nat.le_of_lt_succ c⟩) a
  refine bin_holds W f _ (k+1) (KK h) ⟨(bubble_size _ _ _).trans hp.size,(bubble_perm _ _ _).trans hp.perm,fun i a b=> ?_,fun i a=> ?_⟩ fun i j hij hj=> ?_
  ·rw[gb,if_neg (Nat.ne_of_gt (Nat.lt_of_le_of_lt h1 a)),if_neg fun x=>Nat.not_le_of_lt a x.2];exact hp.tail i (Nat.le_of_succ_le a) b
  ·rw[gb]
   by_cases a1:i=l
   ·rw[if_pos a1];exact Nat.lt_succ_self k
   ·rw[if_neg a1]
    by_cases a2:l<i∧i≤k
    ·rw[if_pos a2];exact Nat.lt_succ_of_lt (hp.head _ (pred a2.1 a2.2).2)
    ·rw[if_neg a2];exact Nat.lt_succ_of_lt (hp.head _ (Nat.lt_of_lt_of_le (low a1 a2 a) h1))
  ·have hj':=Nat.le_of_lt_succ hj
   rw[gb,gb]
   by_cases a1:i=l
   ·subst a1
    have pj:=pred hij hj'
    rw[if_pos rfl,if_neg (Nat.ne_of_gt hij),if_pos ⟨hij,hj'⟩]
    exact .inl (h3 _ pj.1 pj.2)
   ·rw[if_neg a1]
    by_cases a2:l<i∧i≤k
    ·have lj:=Nat.lt_trans a2.1 hij
     rw[if_pos a2,if_neg (Nat.ne_of_gt lj),if_pos ⟨lj,hj'⟩]
     exact ha _ _ (Nat.sub_lt_sub_right (Nat.succ_le_of_lt (Nat.zero_lt_of_lt a2.1)) hij) (pred lj hj').2
    ·rw[if_neg a2]
     have il:=low a1 a2 (Nat.lt_trans hij hj)
     have ik:=Nat.lt_of_lt_of_le il h1
     by_cases a3:j=l
     ·rw[if_pos a3];exact .inr ⟨h2 i il,hp.head i ik⟩
     ·rw[if_neg a3]
      by_cases a4:l<j∧j≤k
      ·have pj:=pred a4.1 a4.2
       rw[if_pos a4]
       exact ha _ _ (Nat.lt_of_lt_of_le il pj.1) pj.2
      ·rw[if_neg a4]
       exact ha _ _ hij (Nat.lt_of_lt_of_le (low a3 a4 hj) h1)
theorem sort_holds(W:Wo lt)(hn:1≤n):Holds lt n (kas_sort n) (fun p=>PI n p n∧Asc lt p n):=by
 unfold kas_sort
 refine Holds.bind (Holds.mono (fun r h=> ?_) (count_holds W hn))
 obtain⟨h1,h2,hp,ha⟩:=h
 rw[Nat.max_eq_left h1]
 by_cases hlt:r.1<n
 ·rw[if_pos hlt]
  exact bin_holds W (n-r.1) r.2 r.1 (Nat.add_sub_cancel' h2) hp ha
 ·rw[if_neg hlt]
  rw[Nat.le_antisymm h2 (Nat.le_of_not_lt hlt)]at hp ha
  exact⟨hp,ha⟩
end
theorem strs_snoc{x:Str}{t:Tok}:∀{vs:List Value} {ss:List Str},StrsAre vs ss→StrsAre (vs++[.str x t]) (ss++[x])
 |_,_,.nil=>.cons _ _ .nil
 |_,_,.cons a b h=>.cons _ _ (strs_snoc h)
theorem strs_len{vs:List Value}{ss:List Str}(h:StrsAre vs ss):vs.length=ss.length:=by
 induction h with
 |nil=>rfl
 |cons _ _ _ ih=>exact congrArg Nat.succ ih
theorem strs_get{vs:List Value}{ss:List Str}(h:StrsAre vs ss):∀{i:Nat} {x:Str},ss[i]? =some x→∃t,vs[i]? =some (.str x t):=by
 induction h with
 |nil=>intro i x hx;cases hx
 |cons y t _ ih=>
  intro i x hx
  cases i with
  |zero=>cases hx;exact⟨_,rfl⟩
  |succ i=>exact ih hx
noncomputable abbrev KH(h h':Heap):Prop:=∀b o,h.get? b=some o→h'.get? b=some o
theorem KH.upd{h h':Heap}{a:Addr}{f:Obj→Obj}(k:KH h h')(ha:h.get? a=none):KH h (h'.update a f):=fun b o e=>by
 rw[Heap.get?_update_ne _ _ _ _ (fun q=>by rw[q,ha]at e;cases e)]
 exact k b o e
section
variable{w:World}{A:Around}{E:Value→Shared→Prop}{s:Shared}{D kS:Addr}{keys:Array Value}{vs:List Value}{e e1:Nat}{P:PySem.Fin→Shared→Prop}{h₁:Heap}{tk:Nat}
theorem stail(K:KH s.heap h₁)(hD:h₁.get? D=some (seqObj "list" #[] e1))(hS:h₁.get? kS=some (seqObj "list" keys e))(hne:kS≠D)(nD:s.heap.get? D=none)(nS:s.heap.get? kS=none){st:SortSt}{out:Array Value}(ho:(arrOf st).map (·.2)=out)(hf:failedOf st=none)(hz:keys.size≤1000)(hzo:out.size≤1000)
(h:∀h' tk c,KH s.heap h'→h'.get? D=some (seqObj "list" out c)→P (.done (.ret .none)) {s with heap:=h',toks:=tk}):wpAny (model pw w) A (ksk_tail D false e1 (.ref kS) st) P E {s with heap:=h₁,toks:=tk}:=by
 have hD1:(h₁.update kS (Obj.mapSeq fun _=>(#[]:Array Value))).get? D=some (seqObj "list" #[] e1):=(Heap.get?_update_ne _ _ _ _ hne.symm).trans hD
 have big:∀n:Nat,n≤1000→n≤sizeLine:=fun n h=>Nat.le_trans h (by decide +kernel)
 obtain⟨c2,hc2⟩:∃c2,((h₁.update kS (Obj.mapSeq fun _=>(#[]:Array Value))).update D (Obj.mapSeq fun _=>out)).get? D=some (seqObj "list" out c2):=⟨_,get?_update_seq hD1 fun _=>out⟩
 unfold ksk_tail
 try dsimp only
 refine wpAny_bind (listUpdate_at hS rfl ?_ (big _ hz) (Nat.zero_le _))
 refine wpAny_bind (wpAny_letGo ?_)
 refine wpAny_bind (seqEpoch_at hD1 rfl ?_)
 rw[ho]
 refine wpAny_bind (listUpdate_at hD1 rfl ?_ (Nat.zero_le _) (Nat.le_succ_of_le (big _ hzo)))
 rw[hf]
 simp only[bne_self_eq_false,Bool.false_eq_true,if_false]
 exact wpAny_pure (h _ _ c2 ((K.upd nS).upd nD) hc2)
theorem send{n:Nat}{lt:Nat→Nat→Bool}{ss:List Str}(W:Wo lt)(hlt:∀i j x y,ss[i]? =some x→ss[j]? =some y→lt i j=decide (x.cps.toList<y.cps.toList))(hkeys:StrsAre keys.toList ss)(hn:ss.length=n)(hv:vs.length=n)(h64:n<64)(K:KH s.heap h₁)(hD:h₁.get? D=some (seqObj "list" #[] e1))(hS:h₁.get? kS=some (seqObj "list" keys e))(hne:kS≠D)(nD:s.heap.get? D=none)(nS:s.heap.get? kS=none)
(h:∀h' tk c (p:Array Nat),PI n p n→Asc lt p n→KH s.heap h'→h'.get? D=some (seqObj "list" (p.map fun i=>vs.getD i Value.none) c)→P (.done (.ret .none)) {s with heap:=h',toks:=tk}):wpAny (model pw w) A (ksk_end D false vs.toArray e1 (.ref kS) keys) P E {s with heap:=h₁,toks:=tk}:=by
 have hks:keys.size=n:=by rw[←Array.length_toList,strs_len hkeys,hn]
 have hit:∀i,i<n→kas_item (keys.zip vs.toArray) i=(keys.getD i .none,vs.getD i .none):=fun i hi=>by
  unfold kas_item
  have hi1:i<keys.size:=hks▸hi
  have hi2:i<vs.length:=hv▸hi
  have hm:i<min keys.size vs.length:=Nat.lt_min.mpr ⟨hi1,hi2⟩
  simp[Array.getD,hi1,hi2,hm]
 have hzs:(keys.zip vs.toArray).size=n:=by simp[hks,hv]
 have snd:∀p:Array Nat,PI n p n→(p.map (kas_item (keys.zip vs.toArray))).map (·.2)=p.map fun i=>vs.getD i Value.none:=fun p hp=>by
  rw[Array.map_map]
  refine Array.map_congr_left fun i hi=> ?_
  show(kas_item _ i).2=_
  have hlt:i<n:=by
   have:=hp.perm.mem_iff.mp hi
   simpa using this
  rw[hit i hlt]
 unfold ksk_end
 try dsimp only
 simp only[Bool.false_eq_true,if_false]
 by_cases h2:vs.toArray.size<2
 ·rw[if_pos h2,if_pos h2]
  rw[List.size_toArray]at h2
  refine wpAny_bind (wpAny_pure ?_)
  rw[StateT.run_pure]
  refine wpAny_bind (wpAny_pure ?_)
  try dsimp only
  have P0:PI n (List.toArray (List.range n)) n:=⟨by simp,.refl _,fun i a b=>absurd b (Nat.not_lt_of_ge a),fun i hi=>by
   rw[(PI.zero n).tail i (Nat.zero_le _) hi];exact hi⟩
  refine stail K hD hS hne nD nS (out:=(List.toArray (List.range n)).map fun i=>vs.getD i Value.none) ?_ rfl (by rw[hks];exact Nat.le_of_lt (Nat.lt_trans h64 (by decide))) (by simp;lia) fun h' tk c k1 k2=>h h' tk c _ P0 (fun i j a b=>absurd (Nat.lt_of_le_of_lt (Nat.succ_le_of_lt (Nat.zero_lt_of_lt a)) b) (Nat.not_lt_of_ge (Nat.le_of_lt_succ (hv▸h2)))) k1 k2
  rw[←snd _ P0]
  show(keys.zip vs.toArray).map (·.2)=_
  have e:=kas_range (keys.zip vs.toArray)
  rw[hzs]at e
  rw[e]
 ·rw[if_neg h2,if_neg h2]
  rw[List.size_toArray]at h2
  obtain⟨v₁,v₂,rest,ek⟩:∃v₁ v₂ rest,keys=(v₁::v₂::rest).toArray:=by
   obtain⟨kl⟩:=keys
   match kl,hks with
   | [],q=>exact absurd (q.trans hv.symm▸Nat.zero_lt_two) h2
   | [_],q=>exact absurd (q.trans hv.symm▸Nat.one_lt_two) h2
   |v₁::v₂::rest,_=>exact⟨v₁,v₂,rest,rfl⟩
  have hk2:StrsAre (v₁::v₂::rest) ss:=by rw[ek]at hkeys;exact hkeys
  have hkk:keyKind' keys=pure oneType':=by rw[ek];exact keyKind_strs hk2
  rw[hkk]
  refine wpAny_bind (wpAny_pure ?_)
  have est:SortSt.mk' oneType' (keys.zip vs.toArray) #[] 7 none=kas_st oneType' (keys.zip vs.toArray) (List.toArray (List.range n)):=by
   have e:=kas_range (keys.zip vs.toArray)
   rw[hzs]at e
   show _=SortSt.mk' oneType' ((List.toArray (List.range n)).map (kas_item (keys.zip vs.toArray))) #[] 7 none
   rw[e]
  rw[est]
  have cmp:∀(i j:Nat) (C:Bool→Shared→Prop),i<n→j<n→C (lt i j) {s with heap:=h₁,toks:=tk}→kas_cmp pw w A oneType' (keys.zip vs.toArray) i j C {s with heap:=h₁,toks:=tk}:=fun i j C hi hj hC=>by
   unfold kas_cmp
   rw[hit i hi,hit j hj]
   obtain⟨t,et⟩:=strs_get hkeys (List.getElem?_eq_getElem (hn.symm▸hi))
   obtain⟨u,eu⟩:=strs_get hkeys (List.getElem?_eq_getElem (hn.symm▸hj))
   have g:∀{k:Nat} {v:Value},keys.toList[k]? =some v→keys.getD k .none=v:=fun{k v} h=>by
    rw[Array.getD_eq_getD_getElem?,←Array.getElem?_toList,h];rfl
   show wpAny _ _ (keyLt' oneType' (keys.getD i .none) (keys.getD j .none)) _ _ _
   rw[g et,g eu,keyLt'_oneType]
   rw[hlt i j _ _ (List.getElem?_eq_getElem (hn.symm▸hi)) (List.getElem?_eq_getElem (hn.symm▸hj))]at hC
   exact oneLt_str hC
  have run:=kas_runs (prog:=pw) (w:=w) (A:=A) (κ:=oneType') (it:=keys.zip vs.toArray) (E:=E) (Q:=fun _ st' s'=>s'={s with heap:=h₁,toks:=tk}∧∃p:Array Nat,PI n p n∧Asc lt p n∧arrOf st'=p.map (kas_item (keys.zip vs.toArray))∧failedOf st'=none)
   (G:=fun p s'=>s'={s with heap:=h₁,toks:=tk}∧PI n p n∧Asc lt p n) (hv▸Nat.le_of_not_lt h2) h64 (fun p' st' s' a1 a2 a3 a4=>⟨a4.1,p',a4.2.1,a4.2.2,a2,a3⟩) (holds_wp cmp (fun p hp=>⟨rfl,hp⟩) (sort_holds W (Nat.le_of_succ_le (hv▸Nat.le_of_not_lt h2))))
  refine wpAny_bind (wpAny_mono run ?_ fun _ _ e=>e)
  rintro⟨⟨⟩,st'⟩ s' ⟨rfl,p,hp,ha,e2,e3⟩
  try dsimp only
  exact stail K hD hS hne nD nS (out:=p.map fun i=>vs.getD i Value.none) (by rw[e2,snd p hp]) e3 (by lia) (by rw[Array.size_map,hp.size];lia) fun h' tk c k1 k2=>h h' tk c p hp ha k1 k2
end
theorem rep_pick{V:List Addr}{h:Heap}{ps:List PV}{vs:List Value}(r:Xb V h ps vs):∀(L:List Nat),(∀i∈L,i<ps.length)→Xb V h (L.map fun i=>ps.getD i elt0) (L.map fun i=>vs.getD i Value.none)
 | [],_=>XW
 |i::L,hm=>by
  have hi:=hm i (List.mem_cons_self ..)
  obtain⟨v,hv,hr⟩:=r.at (List.getElem?_eq_getElem hi)
  refine Xl ?_ (rep_pick r L fun j hj=>hm j (List.mem_cons_of_mem _ hj))
  show Rep V h (ps.getD i elt0) (vs.getD i Value.none)
  rw[List.getD_eq_getElem?_getD,List.getD_eq_getElem?_getD,hv,List.getElem?_eq_getElem hi]
  exact hr
theorem VZ(g:Nat→Str):Wo fun i j=>ltS (g i) (g j):=⟨fun i j h=>by
 unfold ltS at *
 cases e:decide ((g j).cps.toList<(g i).cps.toList)with
 |false=>rfl
 |true=>
  rw[decide_eq_true_eq]at h e
  exact absurd (List.lt_trans h e) (List.lt_irrefl _),fun i j k h1 h2=>by
 unfold ltS at *
 cases e:decide ((g i).cps.toList<(g k).cps.toList)with
 |false=>rfl
 |true=>
  rcases strKind.negTrans (g i).cps.toList (g j).cps.toList (g k).cps.toList e with q |q
  ·have q:decide ((g i).cps.toList<(g j).cps.toList)=true:=q
   rw[h1]at q;cases q
  ·have q:decide ((g j).cps.toList<(g k).cps.toList)=true:=q
   rw[h2]at q;cases q⟩
theorem sorted_ok{w:World}{g:Nat→Obj}{n:Nat}{objs:List (Addr×Obj)}{ka l:Addr}{f:PV→Str}{ps:List PV}(hps:ps.length<64)(hkey:∀p∈ps,Kc w g false n objs (.ref ka) [p] (.str (f p)))(h9:∀p∈objs,439≤p.1){A:Around}(hh:A.handled=none)(hdep:A.depth+n<recursionLimit)
{V:List Addr}{s:Shared}{E:Value→Shared→Prop}(B:Base w g s)(hV:Yd V s.heap)(hXO:XO objs s)(hr:Rep V s.heap (.lst ps) (.ref l)):
 wpAny (model pw w) A (PySem.call (.builtin "sorted") [.ref l] [("key",.ref ka)]) (fun v s'=>∃p:Array Nat,PI ps.length p ps.length∧Asc (fun i j=>ltS (f (ps.getD i elt0)) (f (ps.getD j elt0))) p ps.length∧Rep V s'.heap (.lst (p.toList.map fun i=>ps.getD i elt0)) v∧Kp false s s') E s:=by
 rw[Rep]at hr
 obtain⟨_,vs',e0,hta,hpl,hra⟩:=hr
 cases e0
 obtain⟨vs,rfl⟩:∃vs:List Value,vs'=vs.toArray:=⟨vs'.toList,by simp⟩
 rw[List.toList_toArray]at hra
 have hlen:vs.length=ps.length:=hra.length
 have hl:s.heap.IsList l vs.toArray:=hpl.isList
 have big:∀n:Nat,n≤1000→n≤sizeLine:=fun n h=>Nat.le_trans h (by decide +kernel)
 refine call_function_entry_kw kind_sorted plain_sorted entry_sorted (ksk_s1 _ _) ?_
 unfold Builtin.«sorted»
 refine wpAny_bind (m:=checkCount "sorted" 1 1 _) (wpAny_pure ?_)
 refine wpAny_bind (collect_list hl ?_ (by simpa using big _ (by lia)))
 refine wpAny_bind (wpAny_newList ?_ (big _ (by lia)))
 have hsz:((s.heap.push (seqObj "list" #[] 0)).update s.heap.objs.size (Obj.mapSeq (· ++vs.toArray))).objs.size=s.heap.objs.size+1:=by
  rw[Heap.size_update,Heap.size_push]
 generalize hH1:((s.heap.push (seqObj "list" #[] 0)).update s.heap.objs.size (Obj.mapSeq (· ++vs.toArray))).push (seqObj "list" vs.toArray 0)=H1
 have hoL:H1.get? (s.heap.objs.size+1)=some (seqObj "list" vs.toArray 0):=by
  rw[←hH1,←hsz];exact Heap.get?_push_size _ rfl
 have K1:KH s.heap H1:=fun b o q=>by
  have hlt:b<s.heap.objs.size:=Heap.lt_size q
  rw[←hH1,Heap.get?_push_ne _ _ _ (by rw[hsz];exact Nat.ne_of_lt (Nat.lt_succ_of_lt hlt)),Heap.get?_update_ne _ _ _ _ (Nat.ne_of_lt hlt),Heap.get?_push_ne _ _ _ (Nat.ne_of_lt hlt)]
  exact q
 show wpAny _ _ _ _ _ {s with heap:=H1}
 dsimp only
 rw[hsz]
 generalize hDd:s.heap.objs.size+1=D at hoL ⊢
 have nD:s.heap.get? D=none:=Zf (by rw[←hDd];exact Nat.le_succ _)
 have D9:439≤D:=by rw[←hDd];exact Nat.le_succ_of_le B.size
 refine wpAny_bind (wpAny_holding (wpAny_call_entry_kw slot_list_sort ⟨_,hoL,rfl⟩ entry_list_sort ?_ (ksk_l1 _ _)))
 show wpAny (model pw w) A.in1.in1 (Builtin.«list.sort» ⟨[.ref D],[("key",.ref ka)]⟩) _ _ _
 rw[show Builtin.«list.sort» ⟨[.ref D],[("key",.ref ka)]⟩=ksk_tree D (.ref ka) false from ksk_t1 ka D]
 unfold ksk_tree
 refine wpAny_bind (listItems_at hoL rfl ?_)
 obtain⟨e1,ho1⟩:∃e1,(H1.update D (Obj.mapSeq fun _=>(#[]:Array Value))).get? D=some (seqObj "list" #[] e1):=⟨_,get?_update_seq hoL fun _=>#[]⟩
 refine wpAny_bind (listUpdate_at hoL rfl ?_ (by rw[List.size_toArray];exact big _ (by lia)) (Nat.zero_le _))
 refine wpAny_bind (seqEpoch_at ho1 rfl ?_)
 refine wpAny_bind (wpAny_newTuple ?_ (by show vs.length≤_;exact big _ (by lia)))
 refine wpAny_bind (wpAny_newList ?_ (Nat.zero_le _))
 refine wpAny_holding ?_
 have hDs:D<H1.objs.size:=Heap.lt_size hoL
 have hkS:((H1.update D (Obj.mapSeq fun _=>(#[]:Array Value))).push (seqObj "tuple" vs.toArray 0)).objs.size=H1.objs.size+1:=by rw[Heap.size_push,Heap.size_update]
 have hS2:(((H1.update D (Obj.mapSeq fun _=>(#[]:Array Value))).push (seqObj "tuple" vs.toArray 0)).push (seqObj "list" #[] 0)).get? (H1.objs.size+1)=some (seqObj "list" #[] 0):=by
  rw[←hkS];exact Heap.get?_push_size _ rfl
 have hD2:(((H1.update D (Obj.mapSeq fun _=>(#[]:Array Value))).push (seqObj "tuple" vs.toArray 0)).push (seqObj "list" #[] 0)).get? D=some (seqObj "list" #[] e1):=Heap.get?_push_of_some _ (Heap.get?_push_of_some _ ho1)
 have K2:KH s.heap (((H1.update D (Obj.mapSeq fun _=>(#[]:Array Value))).push (seqObj "tuple" vs.toArray 0)).push (seqObj "list" #[] 0)):=fun b o e=>Heap.get?_push_of_some _ (Heap.get?_push_of_some _ (K1.upd nD b o e))
 dsimp only
 rw[hkS]
 generalize ((H1.update D (Obj.mapSeq fun _=>(#[]:Array Value))).push (seqObj "tuple" vs.toArray 0)).push (seqObj "list" #[] 0)=H2 at hS2 hD2 K2 ⊢
 have hsD:s.heap.objs.size≤H1.objs.size:=by
  have:s.heap.objs.size<D:=by rw[←hDd];exact Nat.lt_succ_self _
  lia
 have nS:s.heap.get? (H1.objs.size+1)=none:=Zf (by lia)
 have hne:H1.objs.size+1≠D:=by lia
 generalize H1.objs.size+1=kS at hS2 nS hne ⊢
 unfold ksk_rest
 refine wpAny_bind (wpAny_rule ?_)
 first
  |rw[List.forIn_toArray]
  | (rw[←Array.forIn_toList];simp only[List.toList_toArray])
  |rw[←Array.forIn_toList]
 refine wpAny_bind (ksk_fold (fun i s'=>∃h' tk kA e,s'={s with heap:=h',toks:=tk}∧KH s.heap h'∧h'.get? kS=some (seqObj "list" kA e)∧h'.get? D=some (seqObj "list" #[] e1)∧StrsAre kA.toList ((ps.take i).map f)) vs 0 _
  ⟨H2,s.toks,#[],0,rfl,K2,hS2,hD2,by simpa using StrsAre.nil⟩ ?step ?done)
 case step=>
  rintro j x s' hx ⟨h',tk,kA,e,rfl,K',hS',hD',hk⟩
  simp only[Nat.zero_add]at hk ⊢
  have hj:j<ps.length:=by rw[←hlen];exact(List.getElem?_eq_some_iff.mp hx).1
  have hpj:ps[j]? =some ps[j]:=List.getElem?_eq_getElem hj
  obtain⟨v,hv,hvr⟩:=hra.at hpj
  rw[hx]at hv
  cases hv
  have hz:kA.size≤ps.length:=by
   have h1:=strs_len hk
   rw[Array.length_toList,List.length_map,List.length_take]at h1
   lia
  have kk:Kp false s {s with heap:=h',toks:=tk}:=⟨h',tk,rfl,fun b o _ e=>K' b o e⟩
  refine wpAny_bind (wpAny_attempt (wpAny_mono (hkey ps[j] (List.getElem_mem hj) A.in1.in1 hh hdep V {s with heap:=h',toks:=tk} [x] (B.kp kk) (hV.kp kk) (hXO.kp h9 kk) (Xl (hvr.kp kk) XW)) (fun y s'' q=> ?_) fun _ _ hF=>hF.elim))
  obtain⟨hy,k2⟩:=q
  rw[Rep]at hy
  obtain⟨t2,rfl⟩:=hy
  obtain⟨g2,tk2,rfl,kk2⟩:=k2
  have nk:=kk2 _ _ rfl hS'
  have na:=kk2 _ _ rfl hD'
  have K3:KH s.heap g2:=fun b o e=>kk2 b o rfl (K' b o e)
  try dsimp only
  obtain⟨c2,hc2⟩:∃c2,(g2.update kS (Obj.mapSeq (·.push (.str (f ps[j]) t2)))).get? kS=some (seqObj "list" (kA.push (.str (f ps[j]) t2)) c2):=⟨_,get?_update_seq nk (·.push (.str (f ps[j]) t2))⟩
  have ek:(ps.take (j+1)).map f=(ps.take j).map f++[f ps[j]]:=by rw[List.take_add_one,hpj,List.map_append];rfl
  have ea:(kA.push (Value.str (f ps[j]) t2)).toList=kA.toList++[Value.str (f ps[j]) t2]:=by simp
  refine wpAny_bind (listUpdate_at nk rfl ?_ (big _ (by lia)) (by rw[Array.size_push];exact Nat.succ_le_succ (big _ (by lia))))
  refine wpAny_pure ⟨rfl,_,_,kA.push (.str (f ps[j]) t2),c2,rfl,K3.upd nS,hc2,(Heap.get?_update_ne _ _ _ _ hne.symm).trans na,by rw[ea,ek];exact strs_snoc hk⟩
 case done=>
  rintro s' ⟨h',tk,kA,e,rfl,K',hS',hD',hk⟩
  have e3:ps.take (0+vs.length)=ps:=List.take_of_length_le (by lia)
  rw[e3]at hk
  try dsimp only
  refine wpAny_bind (listItems_at hS' rfl ?_)
  refine send (n:=ps.length) (VZ fun i=>f (ps.getD i elt0)) (ss:=ps.map f) (fun i j x y hx hy=> ?_) hk (by simp) hlen hps K' hD' hS' hne nD nS fun h' tk c p hp ha kk hg=> ?_
  ·rw[List.getElem?_map]at hx hy
   obtain⟨a,ha,rfl⟩:=Option.map_eq_some_iff.mp hx
   obtain⟨b,hb,rfl⟩:=Option.map_eq_some_iff.mp hy
   show ltS (f (ps.getD i elt0)) (f (ps.getD j elt0))=_
   rw[List.getD_eq_getElem?_getD,List.getD_eq_getElem?_getD,ha,hb]
   rfl
  ·have hm:∀i∈p.toList,i<ps.length:=fun i hi=>by
    have:=hp.perm.mem_iff.mp (Array.mem_toList_iff.mp hi)
    simpa using this
   have kk:Kp false s {s with heap:=h',toks:=tk}:=⟨h',tk,rfl,fun b o _ e=>kk b o e⟩
   refine⟨_,rfl,wpAny_pure ⟨_,rfl,p,hp,ha,?_,kk⟩⟩
   rw[Rep]
   refine⟨D,_,rfl,Yx (Xv D9) (fun m=> ?_),⟨c,hg⟩,?_⟩
   ·obtain⟨_,o,e⟩:=hV D m
    rw[nD]at e;cases e
   ·rw[Array.toList_map]
    exact rep_pick (hra.kp kk) p.toList hm
mutual
noncomputable def toPD:PV→PyData
 | .none=>.none
 | .bool b=>.bool b
 | .int i=>.int i
 | .str x=>.str x
 | .tup l=>.tuple (JG l)
 | .lst l=>.list (JG l)
 | .val _=>.none
noncomputable def JG:List PV→List PyData
 | []=>[]
 |p::ps=>toPD p::JG ps
end
mutual
noncomputable def fitP:PV→Bool
 | .none=>true
 | .bool _=>true
 | .int _=>true
 | .str x=>PyData.strOk x
 | .tup l=>ZV l
 | .lst l=>ZV l
 | .val _=>false
noncomputable def ZV:List PV→Bool
 | []=>true
 |p::ps=>fitP p&&ZV ps
end
mutual
theorem JM{V:List Addr}{h:Heap}:∀(p:PV) (v:Value),fitP p=true→Rep V h p v→∃as,Reads h v (toPD p) as
 | .none,v,_,r=>by rw[Rep]at r;subst r;exact⟨_,.none⟩
 | .bool b,v,_,r=>by rw[Rep]at r;subst r;exact⟨_,.bool b⟩
 | .int i,v,_,r=>by rw[Rep]at r;obtain⟨t,rfl⟩:=r;exact⟨_,.int i t⟩
 | .str x,v,_,r=>by rw[Rep]at r;obtain⟨t,rfl⟩:=r;exact⟨_,.str x t⟩
 | .tup l,v,hf,r=>by
   rw[Rep]at r
   obtain⟨a,vs,rfl,_,⟨n,e⟩,q⟩:=r
   obtain⟨as,q⟩:=readsAll_of l _ hf q
   exact⟨_,(.tuple e rfl rfl q:Reads h _ (.tuple (JG l)) _)⟩
 | .lst l,v,hf,r=>by
   rw[Rep]at r
   obtain⟨a,vs,rfl,_,⟨n,e⟩,q⟩:=r
   obtain⟨as,q⟩:=readsAll_of l _ hf q
   exact⟨_,(.list e rfl rfl q:Reads h _ (.list (JG l)) _)⟩
 | .val _,_,hf,_=>absurd hf Bool.false_ne_true
theorem readsAll_of{V:List Addr}{h:Heap}:∀(ps:List PV) (vs:List Value),ZV ps=true→Xb V h ps vs→∃as,ReadsAll h vs (JG ps) as
 | [],vs,_,r=>by rw[Xb]at r;subst r;exact⟨_,(.nil:ReadsAll h [] [] _)⟩
 |p::ps,vs,hf,r=>by
  rw[Xb]at r
  obtain⟨v,w,rfl,q,t⟩:=r
  have hf:=Bool.and_eq_true_iff.mp (hf:(fitP p&&ZV ps)=true)
  obtain⟨as,q⟩:=JM p v hf.1 q
  obtain⟨bs,t⟩:=readsAll_of ps w hf.2 t
  exact⟨_,(.cons q t:ReadsAll h _ (toPD p::JG ps) _)⟩
end
mutual
theorem Kq:∀p:PV,fitP p=true→(toPD p).canLay0=true
 | .none,_=>rfl
 | .bool _,_=>rfl
 | .int _,_=>rfl
 | .str x,h=>h
 | .tup l,h=>canLays_of l h
 | .lst l,h=>canLays_of l h
 | .val _,h=>absurd h Bool.false_ne_true
theorem canLays_of:∀l:List PV,ZV l=true→PyData.canLayAll0 (JG l)=true
 | [],_=>rfl
 |p::ps,h=>(Bool.and_eq_true_iff.mpr ((Bool.and_eq_true_iff.mp (h:(fitP p&&ZV ps)=true)).imp (Kq p) (canLays_of ps)):(PyData.canLay0 (toPD p)&&PyData.canLayAll0 (JG ps))=true)
end
mutual
noncomputable def dpt:PV→Nat
 | .tup l=>dpts l+1
 | .lst l=>dpts l+1
 |_=>0
noncomputable def dpts:List PV→Nat
 | []=>0
 |p::ps=>max (dpt p) (dpts ps)
end
mutual
theorem depth_of:∀p:PV,(toPD p).depth=dpt p
 | .none=>rfl
 | .bool _=>rfl
 | .int _=>rfl
 | .str x=>rfl
 | .tup l=>congrArg (· +1) (depths_of l)
 | .lst l=>congrArg (· +1) (depths_of l)
 | .val _=>rfl
theorem depths_of:∀l:List PV,PyData.depthAll (JG l)=dpts l
 | []=>rfl
 |p::ps=>(congr (congrArg max (depth_of p)) (depths_of ps):max (toPD p).depth (PyData.depthAll (JG ps))=max (dpt p) (dpts ps))
end
theorem KP{l:List PV}(h:∀p∈l,fitP p=true):ZV l=true:=by
 induction l with
 |nil=>rfl
 |cons p l ih=>exact Bool.and_eq_true_iff.mpr ⟨h p (List.mem_cons_self ..),ih fun q hq=>h q (List.mem_cons_of_mem _ hq)⟩
theorem UH{l:List PV}{n:Nat}(h:∀p∈l,dpt p≤n):dpts l≤n:=by
 induction l with
 |nil=>exact Nat.zero_le _
 |cons p l ih=>exact Nat.max_le.mpr ⟨h p (List.mem_cons_self ..),ih fun q hq=>h q (List.mem_cons_of_mem _ hq)⟩
theorem Kj{p:PV}(hf:fitP p=true)(hd:dpt p≤64):PySem.SeqAt.shaped (toPD p)=true:=by
 unfold PySem.SeqAt.shaped
 rw[Kq p hf,depth_of p,decide_eq_true hd];rfl
section
variable{c:Cx}
theorem cmp_eq_same{p:PV}(hf:fitP p=true)(hd:dpt p≤64)(hu:c.A.units+64<cLine):Zi c .Eq p p true:=fun s v u hs h1 h2=>by
 obtain⟨as,r1⟩:=JM p v hf h1
 obtain⟨bs,r2⟩:=JM p u hf h2
 have e:PyData.eqv (toPD p) (toPD p)=true:=PySem.SeqAt.eqv_refl _ (Kq p hf)
 exact eq_dataH r1 r2 (Kj hf hd) (Kj hf hd) hu (by rw[e];exact⟨rfl,.refl s⟩)
theorem ZG{p:PV}(hf:fitP p=true)(hd:dpt p≤64)(hu:c.A.units+64<cLine):Zi c .NotEq p p false:=fun s v u hs h1 h2=>by
 obtain⟨as,r1⟩:=JM p v hf h1
 obtain⟨bs,r2⟩:=JM p u hf h2
 have e:PyData.eqv (toPD p) (toPD p)=true:=PySem.SeqAt.eqv_refl _ (Kq p hf)
 exact ne_dataH r1 r2 (Kj hf hd) (Kj hf hd) hu (by rw[e];exact⟨rfl,.refl s⟩)
end
theorem rng_at{n k:Nat}{p:PV}(h:((List.range n).map fun i=>PV.int (i:Nat))[k]? =some p):k<n∧.int (k:Nat)=p:=by
 obtain⟨hk,h⟩:=List.getElem?_eq_some_iff.mp h
 rw[List.getElem_map,List.getElem_range]at h
 rw[List.length_map,List.length_range]at hk
 exact⟨hk,h⟩
section
variable{c:Cx}
theorem Vi{tgt iter:PySem.Expr}{body:List Stmt}{pos:Pos}{ps:List PV}{s:Shared}{Q:Flow→Shared→Prop}{E:Value→Shared→Prop}(hs:c.St s)(hi:VO c iter ps)(hfold:∀x,foldedSetIterable iter c.env x=pure x)(htg:Uu tgt=true)
(J:Addr→Nat→Shared→Prop)(F:List Addr)(hF:∀b∈F,b∈c.V∨Xp b=true)
(h0:∀I s',Kp c.lam s s'→s.heap.get? I=none→439≤I→(∃o,s'.heap.get? I=some o)→(∀d x n,s'.heap.get? I≠some ⟨d,none,.seq x n,#[]⟩)→J I 0 s')
(hst:∀I i s₁ s₂,s.heap.get? I=none→J I i s₁→KpF false [I] s₁ s₂→(∃o,s₂.heap.get? I=some o)→(∀d x n,s₂.heap.get? I≠some ⟨d,none,.seq x n,#[]⟩)→J I i s₂)
(hbody:∀I i p v s₁,ps[i]? =some p→s.heap.get? I=none→439≤I→(∀d x n,s₁.heap.get? I≠some ⟨d,none,.seq x n,#[]⟩)→J I i s₁→Rep c.V s₁.heap p v→wpAny (model pw c.w) c.A (assign tgt c.env v) (fun _ s₂=>wpAny (model pw c.w) c.A (execs body c.env) (fun f s₃=>f= .next∧J I (i+1) s₃∧KpF false F s₁ s₃) (fun _ _=>False) s₂) (fun _ _=>False) s₁)
(hdone:∀I s₁ s',s.heap.get? I=none→439≤I→J I ps.length s₁→KpF false [I] s₁ s'→Q .next s'):wpAny (model pw c.w) c.A (exec (.For tgt iter body [] pos) c.env) Q E s:=by
 refine wpAny_For ?_ hfold
 refine wpAny_mono (hi s hs) (fun xv s₁ h₁=>wpAny_mono h₁ (fun it s₂ h₂=> ?_) fun _ _ x=>x.elim) fun _ _ x=>x.elim
 obtain⟨k₂,I,fp,P,St,rfl,hIn,hI,W,hst₀,hfp,hP,hIseq,hgo,hlive⟩:=h₂
 have hs₂:=hs.kp k₂
 have hFp:∀b∈fp,b∉F:=fun b hb m=>by
  rcases hF b m with q |q
  ·rcases(hfp b hb).2.2 with z |z
   ·obtain⟨_,o,e⟩:=hs.2.1.vol b q
    rw[z,hIn]at e;cases e
   ·exact XM (hfp b hb).2.1 q
  ·rw[Xu (hfp b hb).2.1]at q;cases q
 have hIF:I∉F:=hFp I (W.sub I (List.mem_singleton.mpr rfl))
 refine codeAny_forLoop_any (fun k s'=>∃h' tk i,s'={s₂ with heap:=h',toks:=tk}∧i≤ps.length∧k=ps.length+1-i∧St i h'∧J I i s'∧(∀b d x n,tb c.V b=false→s₂.heap.get? b=some ⟨d,Option.none,.seq x n,#[]⟩→h'.get? b=some ⟨d,Option.none,.seq x n,#[]⟩)) ?_ (ps.length+1)
  ⟨s₂.heap,s₂.toks,0,rfl,Nat.zero_le _,rfl,hst₀,h0 I s₂ k₂ hIn hI (hlive _ _ hst₀) (hIseq _ _ hst₀),fun _ _ _ _ _ e=>e⟩
 rintro k s' ⟨h',tk,i,rfl,hi,hk,hst',hJ,kq⟩
 by_cases hlt:i<ps.length
 ·refine W.item i _ _ _ hlt hst' fun v h₂ tk₂ hPv hst₂ hk₂=> ?_
  have kI:KpF false [I] {s₂ with heap:=h',toks:=tk} {s₂ with heap:=h₂,toks:=tk₂}:=⟨h₂,tk₂,rfl,fun b o _ m e=>hk₂ b o m e⟩
  have hJ₂:=hst I i _ _ hIn hJ kI (hlive _ _ hst₂) (hIseq _ _ hst₂)
  obtain⟨p,hp,hpr₀⟩:=hP i v s₂ hPv fun _ _ _ _ e=>e
  have kq₂:∀b d x n,tb c.V b=false→s₂.heap.get? b=some ⟨d,Option.none,.seq x n,#[]⟩→h₂.get? b=some ⟨d,Option.none,.seq x n,#[]⟩:=fun b d x n hb e=>hk₂ b _ (fun m=>by
   rw[List.mem_singleton]at m
   exact hIseq _ _ hst₀ _ _ _ (m▸e)) (kq b d x n hb e)
  have hpr:Rep c.V h₂ p v:=hpr₀.mono fun b d x n hb e=>kq₂ b d x n hb e
  have go:wpAny (model pw c.w) c.A (letOwnedTupleGo tgt (.ref I) v) (fun _ s₀=>s₀={s₂ with heap:=h₂,toks:=tk₂}) (fun _ _=>False) {s₂ with heap:=h₂,toks:=tk₂}:=VV htg rfl fun _ _ _=>hgo _ _ _ (i+1) v _ _ _ hst₂ rfl
  refine wpAny_mono go (fun _ s₀ e₀=> ?_) fun _ _ x=>x.elim
  subst e₀
  refine wpAny_mono (hbody I i p v _ hp hIn hI (hIseq _ _ hst₂) hJ₂ hpr) (fun _ s₃ h₃=>wpAny_mono h₃ (fun f s₄ h₄=> ?_) fun _ _ x=>x.elim) fun _ _ x=>x.elim
  obtain⟨rfl,hJ₄,kF⟩:=h₄
  have hst₄:St (i+1) s₄.heap:=W.frame _ _ _ hst₂ fun b hb o e=>kF.get0 (hFp b hb) e
  have kq₄:∀b d x n,tb c.V b=false→s₂.heap.get? b=some ⟨d,Option.none,.seq x n,#[]⟩→s₄.heap.get? b=some ⟨d,Option.none,.seq x n,#[]⟩:=fun b d x n hb e=>kF.get0 (fun m=>by
   rcases hF b m with q |q
   ·exact XM hb q
   ·rw[Xu hb]at q;cases q) (kq₂ b d x n hb e)
  obtain⟨h4,t4,rfl,kk4⟩:=kF
  exact⟨_,hk▸Nat.sub_lt_sub_left (Nat.lt_succ_of_lt hlt) (Nat.lt_succ_self i),h4,t4,i+1,rfl,hlt,rfl,hst₄,hJ₄,kq₄⟩
 ·obtain rfl:=Nat.le_antisymm hi (Nat.le_of_not_lt hlt)
  refine W.done _ _ _ hst' fun h₂ tk₂ hk₂=> ?_
  have kI:KpF false [I] {s₂ with heap:=h',toks:=tk} {s₂ with heap:=h₂,toks:=tk₂}:=⟨h₂,tk₂,rfl,fun b o _ m e=>hk₂ b o m e⟩
  exact wpAny_execs_nil (hdone I _ _ hIn hI hJ kI)
end
theorem YH(P:Params):(fdOf (o438 P)).closure=[]:=by kernel_rfl
noncomputable abbrev Jd(w:World)(g:Nat→Obj)(A:Around)(L:Addr)(V:List Addr)(X:Shared→Prop)(hX:∀s₁ s',X s₁→KpF false (L::(fdOf (o438 w.params)).closure.map (fun x:Str×Addr=>x.2)) s₁ s'→X s')(hh:A.handled=none):Cx:=mkC w g A (fdOf (o438 w.params)) L 438 false V X hX hh (by kernel_rfl) (by kernel_rfl) (by kernel_rfl)
theorem St.goL{w:World}{g:Nat→Obj}{A:Around}{L:Addr}{V V':List Addr}{X X':Shared→Prop}{hX hX' hh}{ρ:List (Str×PV)}{s s':Shared}{F:List Addr}(hs:((Jd w g A L V X hX hh).wr ρ).St s)(hfl:(ρ.all fun x=>flat x.2)=true)(k:KpF false F s s')(h9:∀b∈F,439≤b∨Xp b=true)
(hL:L∈F→∀o,s.heap.get? L=some o→∃sl,s'.heap.get? L=some {o with slots:=sl})(hV:Yd V' s'.heap)(x:X' s'):((Jd w g A L V' X' hX' hh).wr ρ).St s':=by
 have H:=hs.2.1
 have nc:∀y c,(callEnv (fdOf (o438 w.params)) L 438).cells.lookup y=some c→False:=fun y c h=>by
  have e:(fdOf (o438 w.params)).closure.lookup y=some c:=h
  rw[YH]at e;simp at e
 refine⟨hs.1.kpfT k h9,⟨?_,fun y pv hy hk=> ?_,H.high,fun y c hc=>(nc y c hc).elim,hV,H.apart⟩,x⟩
 ·obtain⟨m,hn,hm⟩:=H.ns
  refine⟨m,?_,fun y pv hy hk=> ?_⟩
  ·by_cases q:L∈F
   ·obtain⟨o,es,ep,e,hd,r⟩:=hn
    obtain⟨sl,e'⟩:=hL q o e
    exact⟨_,es,ep,e',hd,r⟩
   ·exact JP (fun o e=>k.get0 q e) hn
  ·obtain⟨v,hv,hr⟩:=hm y pv hy hk
   exact⟨v,hv,hr.flat (Je hfl hy)⟩
 ·obtain⟨c,v,hc,_⟩:=H.cell y pv hy hk
  exact(nc y c hc).elim
noncomputable def q435(P:Params):Str:=(callEnv (fdOf (o438 P)) 0 438).qual++"<lambda>"
theorem q435_eq(P:Params)(L:Addr):(callEnv (fdOf (o438 P)) L 438).qual++"<lambda>"=q435 P:=by kernel_rfl
theorem law_lclos(P:Params)(L:Addr):closureFor {kind:=.function,names:=[("pair",.local)],isGenerator:=false,isCoroutine:=false} (callEnv (fdOf (o438 P)) L 438)=pure []:=by kernel_rfl
theorem key_fst{w:World}{g:Nat→Obj}{objs:List (Addr×Obj)}{f:Addr}{qual:Str}{pk:Pos}{p1 p2 p3:Pos}{k0:Nat}{pm cv ctv:Value}{c':Addr}{oc:Obj}{cvs:Array Value}{ct:Tok}{y z:Str}
(ha:(f,Uj qual {posonlyargs:=[],args:=[{arg:="pair",annotation:=none,pos:=pk}],vararg:=none,kwonlyargs:=[],kw_defaults:=[],kwarg:=none,defaults:=[]} (.Subscript (.Name "pair" p1) (.Constant (.int 0) k0 p2) p3) {kind:=.function,names:=[("pair",.local)],isGenerator:=false,isCoroutine:=false} [] pm cv ctv)∈objs)
(hcv:cv= .ref c')(hoc:(c',oc)∈objs)(hdc:oc.data= .fields cvs)(hcn:cvs[1]? =some (.str qual ct))(h9:∀p∈objs,439≤p.1):
 Kc w g false 1 objs (.ref f) [.tup [.str y,.str z]] (.str y):=by
 refine key_lam (n:=0) (ns:=["pair"]) (ρf:=[]) ha hcv hoc hdc hcn h9 ?_ (by kernel_rfl) (by kernel_rfl) rfl rfl rfl (fun x q hx=>by simp at hx) (fun x b hx=>by simp at hx) (fun x y b hx=>by simp at hx) ?_
 ·intro vs hv
  obtain⟨v,rfl⟩:=len1 hv
  kernel_rfl
 ·intro V A L' hh hL hd
  exact XY (p:=.tup [.str y,.str z]) (q:=.int 0) (Xa rfl rfl rfl rfl) Xe (XX (by decide) (by decide) rfl) rfl
theorem law_lam{w:World}{g:Nat→Obj}{A:Around}{L:Addr}{V W:List Addr}{X:Shared→Prop}{hX hh}{ρ:List (Str×PV)}{s:Shared}{pk p1 p2 p3 p7:Pos}{k0:Nat}{Q E:Value→Shared→Prop}
(st:((Jd w g A L V X hX hh).wr ρ).St s)(hT:TabG W s.heap 435 (q435 w.params))(hW:∀b∈W,b<s.heap.objs.size)
(h:∀(f:Addr) (objs:List (Addr×Obj)) (s':Shared),KpF false [435] s s'→TabG W s'.heap 435 (q435 w.params)→XO objs s'→
   (∀y z:Str,Kc w g false 1 objs (.ref f) [.tup [.str y,.str z]] (.str y))→(∃o fd,(f,o)∈objs∧o.data= .func fd)→(∀p∈objs,439≤p.1)→Q (.ref f) s'):
 wpAny (model pw w) (A.deeper (callEnv (fdOf (o438 w.params)) L 438)) (eval (.Lambda {posonlyargs:=[],args:=[{arg:="pair",annotation:=none,pos:=pk}],vararg:=none,kwonlyargs:=[],kw_defaults:=[],kwarg:=none,defaults:=[]} (.Subscript (.Name "pair" p1) (.Constant (.int 0) k0 p2) p3) {kind:=.function,names:=[("pair",.local)],isGenerator:=false,isCoroutine:=false} p7) (callEnv (fdOf (o438 w.params)) L 438)) Q E s:=by
 have hC:CodeHd s.heap 437 435:=codeHd_of_K (K:=[(437,o437 w.params)]) (XD st.1 fun p hp=>by rw[List.mem_singleton]at hp;subst hp;exact⟨rfl,by kernel_rfl⟩) (by kernel_rfl)
 have hq:((Jd w g A L V X hX hh).wr ρ).env.qual++"<lambda>"=q435 w.params:=q435_eq w.params L
 refine wp_lamG (F:=W) (c:=(Jd w g A L V X hX hh).wr ρ) (cA:=437) (P:=435) st rfl rfl hC rfl (by rw[hq];exact hT) hW (law_lclos w.params L) fun f c' oc cvs ct ctv s' k T hf hoc hdc hcn h9 hcF hfs=> ?_
 rw[hq]at T hf hcn
 have H9:∀p∈[(f,Uj (q435 w.params) {posonlyargs:=[],args:=[{arg:="pair",annotation:=none,pos:=pk}],vararg:=none,kwonlyargs:=[],kw_defaults:=[],kwarg:=none,defaults:=[]} (.Subscript (.Name "pair" p1) (.Constant (.int 0) k0 p2) p3) {kind:=.function,names:=[("pair",.local)],isGenerator:=false,isCoroutine:=false} [] (((S35 w g).heap.nsMap mainGlobals "__name__").getD .none) (.ref c') ctv),(c',oc)],439≤p.1:=fun p hp=>by
  rcases mem2 hp with rfl |rfl
  ·exact Nat.le_trans st.1.size hfs
  ·exact h9
 refine h f _ s' k T (Yi hf (Yi hoc fun p hp=>by cases hp)) (fun y z=> ?_) ⟨_,_,List.mem_cons_self ..,rfl⟩ H9
 exact key_fst (List.mem_cons_self ..) rfl (List.mem_cons_of_mem _ (List.mem_cons_self ..)) hdc hcn H9
section
variable{c:Cx}
theorem slice_isl{a:Addr}{ns:List Int}{lo hi:Option Nat}(h:∀s,c.St s→∃vs:Array Value,s.heap.IsList a vs∧IntsAre vs.toList ns)(hx:ns.length≤sizeLine):UK c (.val (.ref a)) lo hi (.lst ((sl ns lo hi).map .int)):=fun s v vl vu b hs hr hl hu ha=>by
 rw[Rep]at hr
 subst hr
 obtain⟨vs,hp,hi'⟩:=h s hs
 have e:=slicePick_nat vs lo hi
 have pl:IsPart vl (lo.map fun k:Nat=>(k:Int)):=by
  cases lo with
  |none=>subst hl;exact .none
  |some n=>obtain⟨t,rfl⟩:=hl;exact .int _ _
 have pu:IsPart vu (hi.map fun k:Nat=>(k:Int)):=by
  cases hi with
  |none=>subst hu;exact .none
  |some n=>obtain⟨t,rfl⟩:=hu;exact .int _ _
 have hlen:vs.size=ns.length:=by rw[←hi'.length,Array.length_toList]
 have hra:Xb c.V s.heap (ns.map .int) vs.toList:=Xb.ints hi'.length fun j v hv=>by
  have hj:j<ns.length:=by
   rw[←hi'.length]
   exact(List.getElem?_eq_some_iff.mp hv).1
  obtain⟨t,e⟩:=hi'.get j _ (List.getElem?_eq_getElem hj)
  rw[hv]at e
  exact⟨t,_,List.getElem?_eq_getElem hj,Option.some.inj e⟩
 refine⟨"list",_,slot_list_getitem.lookup,hp.typeIs,wpAny_getItem_list_slice (st:=none) hp ⟨_,ha,rfl,rfl⟩ pl pu .none (by simp) ?_ (by rw[hlen];exact hx)⟩
 rw[e]
 refine⟨?_,XZ _⟩
 rw[Rep]
 refine⟨_,_,rfl,hs.2.1.vol.new hs.1.size,⟨0,Zp rfl⟩,?_⟩
 rw[List.toList_toArray]
 have e2:(sl ns lo hi).map PV.int=sl (ns.map .int) lo hi:=by
  unfold sl
  rw[List.map_take,List.map_drop,List.length_map]
 rw[e2]
 unfold sl
 rw[hra.length]
 exact Xb.kp (l:=c.lam) (s:=s) (XZ _) ((hra.drop _).take _)
end
noncomputable def Ka(W:List Addr)(h:Heap)(a:Addr)(ps:List PV):Prop:=∃(vs:List Value) (n:Nat),h.get? a=some {cls:=.type "list",data:=.seq vs.toArray n}∧Xb W h ps vs
structure LF(s₁:Shared)(P:Params)(a:LexA)(page:Str)(sx dx hl:Addr)(Cs:List (PV×Value))(W:List Addr)(i:Nat)(Ls:List (Addr×List PV))(s:Shared):Prop where
 lex:Xr a page i s.heap
 hd:YJ s.heap sx dx hl
 ls:∀x∈Ls,Ka W s.heap x.1 x.2
 cs:∀x∈Cs,Rep W s.heap x.1 x.2
 t435:TabG W s.heap 435 (q435 P)
 t425:TabG W s.heap 425 (q425 P)
 t394:∃ps,s.heap.get? 394=some (tabObj ps)
 tr:KpF false (394::425::435::W) s₁ s
section
variable{s₁:Shared}{P:Params}{a:LexA}{page:Str}{sx dx hl:Addr}{Cs:List (PV×Value)}{W:List Addr}{i:Nat}{Ls:List (Addr×List PV)}{s s':Shared}{F:List Addr}
theorem Zm(k:KpF false F s s')(hF:∀b∈F,b∈W∨Xp b=true){p:PV}{v:Value}(r:Rep W s.heap p v):Rep W s'.heap p v:=r.mono fun b d x n hb e=>k.get0 (fun m=>by
 rcases hF b m with q |q
 ·exact XM hb q
 ·rw[Xu hb]at q;cases q) e
theorem Ue(k:KpF false F s s')(hF:∀b∈F,b∈W∨Xp b=true){p:List PV}{v:List Value}(r:Xb W s.heap p v):Xb W s'.heap p v:=r.mono fun b d x n hb e=>k.get0 (fun m=>by
 rcases hF b m with q |q
 ·exact XM hb q
 ·rw[Xu hb]at q;cases q) e
theorem Ka.mv(k:KpF false F s s')(hF:∀b∈F,b∈W∨Xp b=true){x:Addr}{ps:List PV}(hx:x∉F)(l:Ka W s.heap x ps):Ka W s'.heap x ps:=
 let⟨vs,n,e,r⟩:=l;⟨vs,n,k.get0 hx e,Ue k hF r⟩
theorem LF.trs(X:LF s₁ P a page sx dx hl Cs W i Ls s)(k:KpF false F s s')(hF:∀b∈F,b∈394::425::435::W):KpF false (394::425::435::W) s₁ s':=X.tr.trans (k.sub hF)
theorem LF.big(X:LF s₁ P a page sx dx hl Cs W i Ls s):∀b∈a.all,439≤b:=X.lex.big
theorem LF.mv(X:LF s₁ P a page sx dx hl Cs W i Ls s)(k:KpF false F s s')(hF:∀b∈F,b∈W)(h9:∀b∈F,439≤b)(hex:∀b∈F,b∉a.all∧b≠sx∧b≠dx){Ls':List (Addr×List PV)}(hls:∀x∈Ls',Ka W s'.heap x.1 x.2∨(x∈Ls∧x.1∉F)):LF s₁ P a page sx dx hl Cs W i Ls' s':=by
 have hF':∀b∈F,b∈W∨Xp b=true:=fun b hb=>.inl (hF b hb)
 have n4:∀{b:Nat},b<439→b∉F:=fun hb m=>absurd (h9 _ m) (Nat.not_le.mpr hb)
 refine⟨X.lex.kpf (fun b hb m=>(hex b m).1 hb) k,X.hd.at fun b o _ hb e=>k.get0 (fun m=> ?_) e,fun x hx=> ?_,fun x hx=>Zm k hF' (X.cs x hx),X.t435.kpf k (n4 (by decide)) hF',X.t425.kpf k (n4 (by decide)) hF',?_,X.trs k fun b hb=>.tail _ (.tail _ (.tail _ (hF b hb)))⟩
 ·rcases hb with rfl |rfl
  ·exact(hex _ m).2.1 rfl
  ·exact(hex _ m).2.2 rfl
 ·rcases hls x hx with q | ⟨q1,q2⟩
  ·exact q
  ·exact(X.ls x q1).mv k hF' q2
 ·obtain⟨ps,e⟩:=X.t394
  exact⟨ps,k.get0 (n4 (by decide)) e⟩
theorem LF.tok{j:Nat}(X:LF s₁ P a page sx dx hl Cs W i Ls s)(k:KpF false a.vol s s')(hF:∀b∈a.vol,b∈W)(hex:∀b∈a.vol,b≠sx∧b≠dx)(hls:∀x∈Ls,x.1∉a.vol)(La:Xr a page j s'.heap):LF s₁ P a page sx dx hl Cs W j Ls s':=by
 have hF':∀b∈a.vol,b∈W∨Xp b=true:=fun b hb=>.inl (hF b hb)
 have n4:∀{b:Nat},b<439→b∉a.vol:=fun hb m=>absurd (X.big _ (XJ m)) (Nat.not_le.mpr hb)
 refine⟨La,X.hd.at fun b o _ hb e=>k.get0 (fun m=> ?_) e,fun x hx=>(X.ls x hx).mv k hF' (hls x hx),fun x hx=>Zm k hF' (X.cs x hx),X.t435.kpf k (n4 (by decide)) hF',X.t425.kpf k (n4 (by decide)) hF',?_,X.trs k fun b hb=>.tail _ (.tail _ (.tail _ (hF b hb)))⟩
 ·rcases hb with rfl |rfl
  ·exact(hex _ m).1 rfl
  ·exact(hex _ m).2 rfl
 ·obtain⟨ps,e⟩:=X.t394
  exact⟨ps,k.get0 (n4 (by decide)) e⟩
theorem LF.tab{t:Addr}(X:LF s₁ P a page sx dx hl Cs W i Ls s)(k:KpF false [t] s s')(ht:Xp t=true)(hW:∀b∈W,439≤b)(hl9:∀x∈Ls,439≤x.1)(h435:t=435→TabG W s'.heap 435 (q435 P))(h425:t=425→TabG W s'.heap 425 (q425 P))(h394:t≠394):LF s₁ P a page sx dx hl Cs W i Ls s':=by
 have hF':∀b∈[t],b∈W∨Xp b=true:=fun b hb=>.inr (by rw[List.mem_singleton.mp hb];exact ht)
 have t9:t<439:=by
  rcases Nat.lt_or_ge t 439 with q |q
  ·exact q
  ·rw[Xv q]at ht;cases ht
 have n9:∀{b:Nat},439≤b→b∉[t]:=fun hb m=>by
  rw[List.mem_singleton.mp m]at hb
  exact absurd t9 (Nat.not_lt.mpr hb)
 refine⟨X.lex.kpf (fun b hb m=>n9 (X.big b hb) m) k,X.hd.at fun b o h9 hb e=>k.get0 (n9 h9) e,fun x hx=>(X.ls x hx).mv k hF' (n9 (hl9 x hx)),fun x hx=>Zm k hF' (X.cs x hx),?_,?_,?_,X.trs k fun b hb=> ?_⟩
 ·by_cases q:t=435
  ·exact h435 q
  ·exact X.t435.kpf k (fun m=>q (List.mem_singleton.mp m).symm) hF'
 ·by_cases q:t=425
  ·exact h425 q
  ·exact X.t425.kpf k (fun m=>q (List.mem_singleton.mp m).symm) hF'
 ·obtain⟨ps,e⟩:=X.t394
  exact⟨ps,k.get0 (fun m=>h394 (List.mem_singleton.mp m).symm) e⟩
 ·rw[List.mem_singleton]at hb
  subst hb
  unfold Xp at ht
  rw[Bool.or_eq_true,Bool.or_eq_true,beq_iff_eq,beq_iff_eq,beq_iff_eq]at ht
  rcases ht with(rfl |rfl) |rfl
  ·exact absurd rfl h394
  ·exact .tail _ (.head _)
  ·exact .tail _ (.tail _ (.head _))
theorem LF.kp(X:LF s₁ P a page sx dx hl Cs W i Ls s)(k:Kp false s s'):LF s₁ P a page sx dx hl Cs W i Ls s':=X.mv (F:=[]) (.of k) (fun b hb=>by cases hb) (fun b hb=>by cases hb) (fun b hb=>by cases hb) fun x hx=>.inr ⟨hx,fun m=>by cases m⟩
theorem LF.slot{L:Addr}(X:LF s₁ P a page sx dx hl Cs W i Ls s)(k:Fl [] [L] s s')(hL:L∈W)(h9:439≤L)(hex:L∉a.all∧L≠sx∧L≠dx)(hls:∀x∈Ls,x.1≠L):LF s₁ P a page sx dx hl Cs W i Ls s':=by
 have k':KpF false [L] s s':=k.1
 exact X.mv k' (fun b hb=>by rw[List.mem_singleton.mp hb];exact hL) (fun b hb=>by rw[List.mem_singleton.mp hb];exact h9) (fun b hb=>by rw[List.mem_singleton.mp hb];exact hex) fun x hx=>.inr ⟨hx,fun m=>hls x hx (List.mem_singleton.mp m)⟩
theorem LF.re{Cs':List (PV×Value)}{W':List Addr}{Ls':List (Addr×List PV)}(X:LF s₁ P a page sx dx hl Cs W i Ls s)(hsub:∀b d x n,tb W b=false→s.heap.get? b=some ⟨d,Option.none,.seq x n,#[]⟩→tb W' b=false)
(ht:∀b∈W',b∈W∨s.heap.get? b=none∨∃o es n,s.heap.get? b=some o∧o.data= .dict es n)(hw:∀b∈W,b∈W'∨s₁.heap.get? b=none)
(hl':∀x∈Ls',x∈Ls∨Ka W' s.heap x.1 x.2)(hc':∀x∈Cs',x∈Cs∨Rep W' s.heap x.1 x.2):LF s₁ P a page sx dx hl Cs' W' i Ls' s:=by
 refine⟨X.lex,X.hd,fun x hx=> ?_,fun x hx=> ?_,X.t435.re ht,X.t425.re ht,X.t394,X.tr.drop fun b hb hn=> ?_⟩
 ·rcases hl' x hx with q |q
  ·obtain⟨vs,n,e,r⟩:=X.ls x q
   exact⟨vs,n,e,r.sub hsub⟩
  ·exact q
 ·rcases hc' x hx with q |q
  ·exact(X.cs x q).sub hsub
  ·exact q
 ·simp only[List.mem_cons,not_or]at hb hn
  rcases hb with q |q |q |q
  ·exact absurd q hn.1
  ·exact absurd q hn.2.1
  ·exact absurd q hn.2.2.1
  ·rcases hw b q with z |z
   ·exact absurd z hn.2.2.2
   ·exact z
end
noncomputable def pwd(d:Nat):Str×Str:=(prep (spell d),spell d)
noncomputable def barD(d:Nat):Int:=barL (prep (spell d)).cps.toList
noncomputable def bOf(d:Nat):Int:=if barD d=0 then(if(prep (spell d)).cps.toList.any nmP then 1 else 0)else barD d
noncomputable def insR(R:List (Str×Str))(q:Str×Str):List (Str×Str):=R.take (Zr fstS (Xf R) q.1)++q::R.drop (Zr fstS (Xf R) q.1)
noncomputable def Hk(D:List Nat)(k:Nat):List (Str×Str):=((D.take k).filter fun d=>bOf d==0).map pwd
noncomputable def Rk(D:List Nat)(k:Nat):List (Str×Str):=(Hk D k).foldl insR []
noncomputable def Fk(D:List Nat)(k:Nat):List (Nat×Int):=(List.range k).filterMap fun i=>if bOf (D.getD i 0)=0 then none else some (i,bOf (D.getD i 0))
noncomputable def YE(F:List (Nat×Int)):List PV:=F.map fun p=>.tup [.int (p.1:Nat),.int p.2]
noncomputable def wdPV(D:List Nat):List PV:=D.map fun d=>.str (spell d)
noncomputable def Zof(D:List Nat):List (Nat×Str):=D.map fun d=>(d,spell d)
noncomputable def XL(D:List Nat):Str:=Ys (Zof D)
section
variable{D:List Nat}{k d:Nat}
theorem take_up(h:D[k]? =some d):D.take (k+1)=D.take k++[d]:=by rw[List.take_add_one,h];rfl
theorem Wy(h:D[k]? =some d):Hk D (k+1)=Hk D k++(if bOf d=0 then[pwd d]else[]):=by
 unfold Hk
 rw[take_up h,List.filter_append,List.map_append]
 congr 1
 by_cases e:bOf d=0
 ·rw[if_pos e,List.filter_cons_of_pos (by simpa using e)];rfl
 ·rw[if_neg e,List.filter_cons_of_neg (by simpa using e)];rfl
theorem Rk_up(h:D[k]? =some d):Rk D (k+1)=if bOf d=0 then insR (Rk D k) (pwd d)else Rk D k:=by
 unfold Rk
 rw[Wy h,List.foldl_append]
 by_cases e:bOf d=0
 ·rw[if_pos e,if_pos e];rfl
 ·rw[if_neg e,if_neg e];rfl
theorem Fk_up(h:D[k]? =some d):Fk D (k+1)=Fk D k++(if bOf d=0 then[]else[(k,bOf d)]):=by
 unfold Fk
 rw[List.range_succ,List.filterMap_append]
 congr 1
 have e:D.getD k 0=d:=by rw[List.getD_eq_getElem?_getD,h];rfl
 simp only[List.filterMap_cons,List.filterMap_nil,e]
 by_cases q:bOf d=0
 ·rw[if_pos q,if_pos q]
 ·rw[if_neg q,if_neg q]
theorem wd_up(h:D[k]? =some d):wdPV (D.take (k+1))=wdPV (D.take k)++[.str (spell d)]:=by
 unfold wdPV
 rw[take_up h,List.map_append];rfl
theorem Va:(Hk D k).length≤D.length:=by
 unfold Hk
 rw[List.length_map]
 exact Nat.le_trans (List.length_filter_le _ _) (List.length_take_le' k D)
theorem insR_len(R:List (Str×Str))(q:Str×Str):(insR R q).length=R.length+1:=by
 unfold insR
 rw[List.length_append,List.length_cons,←Nat.add_assoc,←List.length_append,List.take_append_drop]
theorem foldl_insR_len(l:List (Str×Str)):∀R:List (Str×Str),(l.foldl insR R).length=R.length+l.length:=by
 induction l with
 |nil=>intro R;rfl
 |cons q l ih=>intro R;rw[List.foldl_cons,ih,insR_len,List.length_cons];exact Nat.succ_add_eq_add_succ _ _
theorem Rk_len:(Rk D k).length≤D.length:=by
 unfold Rk
 rw[foldl_insR_len]
 exact Nat.le_trans (Nat.le_of_eq (Nat.zero_add _)) Va
theorem Fk_len:(Fk D k).length≤k:=by
 unfold Fk
 exact Nat.le_trans (List.length_filterMap_le _ _) (Nat.le_of_eq List.length_range)
theorem tupPV_insR(R:List (Str×Str))(q:Str×Str):Xf (insR R q)=(Xf R).take (Zr fstS (Xf R) q.1)++.tup [.str q.1,.str q.2]::(Xf R).drop (Zr fstS (Xf R) q.1):=by
 unfold insR
 generalize Zr fstS (Xf R) q.1=b
 unfold Xf
 rw[List.map_append,List.map_take,List.map_cons,List.map_drop]
end
noncomputable def Rst(D:List Nat)(k:Nat)(r:List Nat):Prop:=∃ws,(∀c∈ws,wsC c=true)∧r=ws++(Ys ((Zof D).drop k)).cps.toList
structure SA(L:Addr)(a:LexA)(sx dx:Addr)(As:List Addr):Prop where
 L9:439≤L
 A9:∀x∈As,439≤x
 La:L∉a.all
 Lx:L≠sx∧L≠dx
 LA:∀x∈As,x≠L
 Aa:∀x∈As,x∉a.all
 Ax:∀x∈As,x≠sx∧x≠dx
 va:∀b∈a.all,b≠sx∧b≠dx
section
variable{s₁:Shared}{P:Params}{L:Addr}{a:LexA}{page:Str}{sx dx hl:Addr}{As:List Addr}{Cs:List (PV×Value)}{W:List Addr}{i:Nat}{Ls:List (Addr×List PV)}
theorem lf_fr(S:SA L a sx dx As)(hLW:L∈W)(hLs:∀x∈Ls,x.1∈As){s s':Shared}(X:LF s₁ P a page sx dx hl Cs W i Ls s)(k:KpF false [L] s s'):LF s₁ P a page sx dx hl Cs W i Ls s':=
 X.mv k (fun b hb=>by rw[List.mem_singleton.mp hb];exact hLW) (fun b hb=>by rw[List.mem_singleton.mp hb];exact S.L9) (fun b hb=>by rw[List.mem_singleton.mp hb];exact⟨S.La,S.Lx⟩) fun x hx=>.inr ⟨hx,fun m=>S.LA _ (hLs x hx) (List.mem_singleton.mp m)⟩
theorem Wt(P':Params)(S:SA L a sx dx As)(hLW:L∈W)(hLs:∀x∈Ls,x.1∈As):∀s s':Shared,LF s₁ P a page sx dx hl Cs W i Ls s→KpF false (L::(fdOf (o438 P')).closure.map (fun x:Str×Addr=>x.2)) s s'→LF s₁ P a page sx dx hl Cs W i Ls s':=fun s s' X k=>by
 rw[YH]at k
 exact lf_fr S hLW hLs X k
end
noncomputable def Ww:List Stmt:=match(fdB (stN 36))[8]? with |some (Stmt.For _ _ b _ _)=>b |_=>[]
noncomputable abbrev LsA(rd hl rw rf:Addr)(w:List PV)(H R:List (Str×Str))(F:List (Nat×Int)):List (Addr×List PV):=[(rd,w),(hl,Xf H),(rw,Xf R),(rf,YE F)]
noncomputable abbrev AsA(rd hl rw rf:Addr):List Addr:=[rd,hl,rw,rf]
theorem Ya{rd hl rw rf:Addr}{w:List PV}{H R:List (Str×Str)}{F:List (Nat×Int)}:∀x∈LsA rd hl rw rf w H R F,x.1∈AsA rd hl rw rf:=fun x hx=>(List.mem_map_of_mem hx:x.1∈(LsA rd hl rw rf w H R F).map (·.1))
noncomputable abbrev cA(w:World)(g:Nat→Obj)(A:Around)(s₁:Shared)(L:Addr)(a:LexA)(page:Str)(sx dx hl:Addr)(As:List Addr)(Cs:List (PV×Value))(W:List Addr)(i:Nat)(Ls:List (Addr×List PV))(S:SA L a sx dx As)(hLW:L∈W)(hLs:∀x∈Ls,x.1∈As)(hh:A.handled=none):Cx:=
 Jd w g A L W (LF s₁ w.params a page sx dx hl Cs W i Ls) (Wt w.params S hLW hLs) hh
section
variable{w:World}{g:Nat→Obj}{A:Around}{s₁:Shared}{L:Addr}{a:LexA}{page:Str}{sx dx hl:Addr}{As:List Addr}{Cs:List (PV×Value)}{W:List Addr}{i j:Nat}{Ls Ls':List (Addr×List PV)}{S:SA L a sx dx As}{hLW:L∈W}{hLs:∀x∈Ls,x.1∈As}{hh:A.handled=none}{ρ:List (Str×PV)}{s s':Shared}{F:List Addr}
theorem JF(hLs':∀x∈Ls',x.1∈As)(st:((cA w g A s₁ L a page sx dx hl As Cs W i Ls S hLW hLs hh).wr ρ).St s)(hfl:(ρ.all fun x=>flat x.2)=true)(k:KpF false F s s')(h9:∀b∈F,439≤b∨Xp b=true)(hL:L∈F→∀o,s.heap.get? L=some o→∃sl,s'.heap.get? L=some {o with slots:=sl})
(hlive:∀b∈F,∃o,s'.heap.get? b=some o)(X:LF s₁ w.params a page sx dx hl Cs W j Ls' s'):((cA w g A s₁ L a page sx dx hl As Cs W j Ls' S hLW hLs' hh).wr ρ).St s':=St.goL st hfl k h9 hL (Ua st.2.1.vol k hlive) X
theorem cA_inst(st:((cA w g A s₁ L a page sx dx hl As Cs W i Ls S hLW hLs hh).wr ρ).St s):∃ox od,InstAt s.heap a.lx ox 240 od∧shadowIn od "get_token"=some false:=by
 have X:LF s₁ w.params a page sx dx hl Cs W i Ls s:=st.2.2
 obtain⟨h1,h2,h3,h4,t1,t2,t3,t4,t5,t6,n,m,hdx⟩:=X.lex.dx
 exact⟨instObj 240 a.dx,some (dictOf (Uy h1 h2 h3 h4 t1 t2 t3 t4 t5 t6 n (.ref a.st) (.ref a.pb)) m),⟨X.lex.lx,rfl,rfl,hdx⟩,by kernel_rfl⟩
theorem JQ{x:Addr}{ps:List PV}{p:PV}{v:Value}{vs:List Value}{n:Nat}(hx:x∈W)(hr:Xb W s.heap ps vs)(k:KpF false [x] s s')(hp:Rep W s'.heap p v)(hg:s'.heap.get? x=some {cls:=.type "list",data:=.seq (vs.toArray.push v) n}):Ka W s'.heap x (ps++[p]):=by
 rw[List.push_toArray]at hg
 exact⟨_,_,hg,Xb.snoc hp (Ue k (fun b hb=>.inl (by rw[List.mem_singleton.mp hb];exact hx)) hr)⟩
end
noncomputable abbrev ρ1(nv sv:Value)(a:LexA)(rd rw rf sx:Addr):List (Str×PV):=[("refused",.val (.ref rf)),("row",.val (.ref rw)),("table",.val (.ref sx)),("read",.val (.ref rd)),("lexer",.val (.ref a.lx)),("spellings",.val sv),("names",.val nv)]
theorem Kh(d:Nat):(spell d).length≤3:=by
 unfold spell
 rw[Jx]
 have h1:∀l:List Nat,((l.map (sgAt (d/4096))).map (·.length)).sum≤l.length:=fun l=>by
  induction l with
  |nil=>exact Nat.le_refl _
  |cons b l ih=>exact Nat.le_trans (Nat.add_le_add (sg_short (d/4096) b) ih) (Nat.le_of_eq (Nat.add_comm 1 _))
 exact h1 (Xg d)
theorem constX_int{i:Int}{k:Nat}{pos:Pos}{env:Env}{s:Shared}:∀(M:Model) (A:Around) (Q E:Value→Shared→Prop),(∀t,Q (.int i t) {s with toks:=s.toks+1})→wpAny M A (eval (.Constant (.int i) k pos) env) Q E s:=fun M A Q E h=>fun Γ p hΓ=>h _
theorem asgXi{c:Cx}{x:Str}{p1 p2 p3:Pos}{i:Int}{n:Nat}{s:Shared}(hs:c.St s)(hk:Storable c x)(hsw:swapsWith (.Constant (.int i) n p2) (some (.Name x p1)) p3.line c.env=pure false):
 ∀(A:Around) (Q:Flow→Shared→Prop) (E:Value→Shared→Prop),(∀s₁ s',Kp c.lam s s₁→(c.set x (.int i)).St s'→KpF c.lam c.fr s₁ s'→Q .next s')→wpAny (model pw c.w) A (execs [.Assign [.Name x p1] (.Constant (.int i) n p2) p3] c.env) Q E s:=fun A Q E h=>by
 refine wpAny_execs_cons ?_
 rw[exec_Assign_Name _ _ _ _ _ hsw]
 have k₁:Kp c.lam s {s with toks:=s.toks+1}:=.tok _
 refine wpAny_bind (wpAny_standAt (wpAny_bind (constX_int _ _ _ _ fun t=> ?_)))
 exact wpAny_bind (wpAny_standAt (wpAny_bind (wpAny_bindName (Zj (p:=.int i) (hs.kp k₁) YG hk fun s₂ st₂ k₂=>wpAny_pure (wpAny_execs_nil (h _ s₂ k₁ st₂ k₂))))))
theorem body1{w:World}{g:Nat→Obj}(hg:Facts w g){A:Around}{s₁:Shared}{L:Addr}{a:LexA}{page:Str}{sx dx hl rd rw rf I:Addr}{nv sv:Value}{Cs:List (PV×Value)}{S:SA L a sx dx (AsA rd hl rw rf)}{hh:A.handled=none}(hdep:A.depth+10<recursionLimit)(hfr:A.frames=some [])
(hnd:(AsA rd hl rw rf).Nodup)(hI:I∉AsA rd hl rw rf∧I∉a.all∧I≠sx∧I≠dx){D:List Nat}(hDl:D.length≤100){k d i:Nat}(hk:D[k]? =some d)(hpg:page.length≤50000)(hi:i≤page.length+1)(hsp:spell d≠⟨#[]⟩)(hv:(spell d).cps.toList.any vlP=false){r':List Nat}(hT:TTo (page.cps.toList.drop i) (spell d) r')
{hLW:L∈I::L::rd::hl::rw ::rf::a.vol}{s:Shared}
(st:((cA w g A s₁ L a page sx dx hl (AsA rd hl rw rf) Cs (I::L::rd::hl::rw ::rf::a.vol) i (LsA rd hl rw rf (wdPV (D.take k)) (Hk D k) (Rk D k) (Fk D k)) S hLW Ya hh).wr (("k",.int k)::ρ1 nv sv a rd rw rf sx)).St s):
 wpAny (model pw w) (A.deeper (callEnv (fdOf (o438 w.params)) L 438)) (execs Ww (callEnv (fdOf (o438 w.params)) L 438)) (fun f s'=>f= .next∧(∃j,j≤page.length+1∧page.cps.toList.drop j=r'∧
  ((cA w g A s₁ L a page sx dx hl (AsA rd hl rw rf) Cs (I::L::rd::hl::rw ::rf::a.vol) j (LsA rd hl rw rf (wdPV (D.take (k+1))) (Hk D (k+1)) (Rk D (k+1)) (Fk D (k+1))) S hLW Ya hh).wr (ρ1 nv sv a rd rw rf sx)).St s')∧KpF false (435::L::rd::hl::rw ::rf::a.vol) s s') (fun _ _=>False) s:=by
 have hbody:Ww=Ww:=rfl
 conv at hbody=>rhs;whnf
 rw[hbody]
 let VW:List Addr:=I::L::rd::hl::rw ::rf::a.vol
 let FW:List Addr:=435::L::rd::hl::rw ::rf::a.vol
 let e₁:Env:=callEnv (fdOf (o438 w.params)) L 438
 let A₁:Around:=A.deeper e₁
 let cf (n:Nat) (p:List PV) (H R:List (Str×Str)) (F:List (Nat×Int)):Cx:=cA w g A s₁ L a page sx dx hl (AsA rd hl rw rf) Cs VW n (LsA rd hl rw rf p H R F) S hLW Ya hh
 let xf (n:Nat) (p:List PV) (H R:List (Str×Str)) (F:List (Nat×Int)):Shared→Prop:=LF s₁ w.params a page sx dx hl Cs VW n (LsA rd hl rw rf p H R F)
 let ρ₀:List (Str×PV):=ρ1 nv sv a rd rw rf sx
 let ρ₂:List (Str×PV):=("k",.int k)::ρ₀
 have st:((cf i (wdPV (D.take k)) (Hk D k) (Rk D k) (Fk D k)).wr ρ₂).St s:=st
 refine ZK fun Q hQ=> ?_
 have go:=Xx st
 refine go _ _ _ ?_
 have hsl:=Kh d
 have hpl:=prep_len (spell d)
 refine Zy st (.inl rfl) rfl (UM (f:=230) (sx:=a.lx) (C:=240) (K:=KLx w.params) st (Xa rfl rfl rfl rfl) (fun s' st'=>Yz st'.1) (fun s' st'=>cA_inst st') (by kernel_rfl) (by kernel_rfl) (by kernel_rfl) (by kernel_rfl) (by kernel_rfl) rfl rfl fun s₂ k₂ st₂=> ?_)
 refine wpAny_mono (gettok_ok (A:=A₁) hh (show A.depth+1+3<recursionLimit from dep2 hdep (by decide)) st₂.1 st₂.2.2.lex hpg hi hT) (fun v s₃ q=> ?_) fun _ _ x=>x.elim
 obtain⟨⟨tk,rfl⟩,⟨j,hj,hdrop,La⟩,k₃⟩:=q
 let c₃:Cx:=cf j (wdPV (D.take k)) (Hk D k) (Rk D k) (Fk D k)
 let x₃:Shared→Prop:=xf j (wdPV (D.take k)) (Hk D k) (Rk D k) (Fk D k)
 let c₆:Cx:=cf j (wdPV (D.take (k+1))) (Hk D k) (Rk D k) (Fk D k)
 let x₆:Shared→Prop:=xf j (wdPV (D.take (k+1))) (Hk D k) (Rk D k) (Fk D k)
 let c₁₁:Cx:=cf j (wdPV (D.take (k+1))) (Hk D (k+1)) (Rk D k) (Fk D k)
 let x₁₁:Shared→Prop:=xf j (wdPV (D.take (k+1))) (Hk D (k+1)) (Rk D k) (Fk D k)
 have volW:∀b∈a.vol,b∈VW:=fun b hb=>.tail _ (.tail _ (.tail _ (.tail _ (.tail _ (.tail _ hb)))))
 have X₂:xf i (wdPV (D.take k)) (Hk D k) (Rk D k) (Fk D k) s₂:=st₂.2.2
 have X₃:=X₂.tok k₃ volW (fun b hb=>S.va b (XJ hb)) (fun x hx m=>S.Aa _ (Ya x hx) (XJ m)) La
 have st₃:(c₃.wr ρ₂).St s₃:=JF Ya st₂ rfl k₃ (fun b hb=>.inl (X₂.big b (XJ hb))) (fun m=>absurd (XJ m) S.La) (fun b hb=>La.live (XJ hb)) X₃
 have sub0:∀{s s':Shared},KpF false (e₁.locals::e₁.cells.map (·.2)) s s'→KpF false FW s s':=fun k=>Yt (YH w.params) (.tail _ (.head _)) k
 have kk₃:KpF false FW s s₃:=(KpF.of k₂).trans (k₃.sub fun b hb=>.tail _ (.tail _ (.tail _ (.tail _ (.tail _ (.tail _ hb))))))
 have to₃:=XS (x:="word") (p:=.str (spell d)) (v:=.str (spell d) tk) st₃ (by rw[Rep];exact⟨_,rfl⟩) (.inl rfl)
 refine to₃ _ _ _ fun s₄ st₄ k₄=> ?_
 let ρ₄:List (Str×PV):=("word",.str (spell d))::ρ₂
 have st₄:(c₃.wr ρ₄).St s₄:=st₄
 have go₄:=Xx st₄
 refine go₄ _ _ _ ?_
 have kk₄:=kk₃.trans (sub0 k₄)
 have X₄:x₃ s₄:=st₄.2.2
 have rdW:rd∈VW:=.tail _ (.tail _ (.head _))
 have hlW:hl∈VW:=.tail _ (.tail _ (.tail _ (.head _)))
 have rwW:rw ∈VW:=.tail _ (.tail _ (.tail _ (.tail _ (.head _))))
 have rfW:rf∈VW:=.tail _ (.tail _ (.tail _ (.tail _ (.tail _ (.head _)))))
 have rdA:rd∈AsA rd hl rw rf:=.head _
 have hlA:hl∈AsA rd hl rw rf:=.tail _ (.head _)
 have rwA:rw ∈AsA rd hl rw rf:=.tail _ (.tail _ (.head _))
 have rfA:rf∈AsA rd hl rw rf:=.tail _ (.tail _ (.tail _ (.head _)))
 -- the list read grows
 obtain⟨vr,nr,hrg,hrr⟩:=X₄.ls (rd,wdPV (D.take k)) (.head _)
 have hrl:vr.length≤100:=by
  rw[hrr.length]
  unfold wdPV
  rw[List.length_map];exact Nat.le_trans (List.length_take_le' _ _) hDl
 refine Xq (wpAny_Expr_any (Jl st₄ (a:=rd) (p:=.str (spell d)) (Xa rfl rfl rfl rfl) (Xa rfl rfl rfl rfl) rfl rfl (Xv (S.A9 rd rdA)) hrg (by rw[List.size_toArray];exact Nat.le_trans hrl (by decide)) fun v s₅ h₅ r₅ k₅ st₅ hsb₅ hg₅=>⟨rfl,?_⟩))
 obtain⟨n1,n2,n3,n4,n5,n6⟩:rd≠hl∧rd≠rw ∧rd≠rf∧hl≠rw ∧hl≠rf∧rw ≠rf:=by
  exact nd4 hnd
 have one:∀{x:Addr},x∈AsA rd hl rw rf→∀b∈[x],b∉a.all∧b≠sx∧b≠dx:=fun{x} hx b hb=>by
  rw[List.mem_singleton.mp hb];exact⟨S.Aa x hx,S.Ax x hx⟩
 have nL:∀{x:Addr} {P:Prop},x∈AsA rd hl rw rf→L∈[x]→P:=fun hx m=>absurd (List.mem_singleton.mp m).symm (S.LA _ hx)
 have o9:∀{x:Addr},x∈AsA rd hl rw rf→∀b∈[x],439≤b:=fun{x} hx b hb=>by rw[List.mem_singleton.mp hb];exact S.A9 x hx
 have oW:∀{x:Addr} {W:List Addr},x∈W→∀b∈[x],b∈W:=fun{x W} hx b hb=>by rw[List.mem_singleton.mp hb];exact hx
 have X₅:x₃ s₅:=st₅.2.2
 have k₆:KpF false [rd] s₅ {s₅ with heap:=h₅}:=.same hsb₅
 have l₆:=JQ rdW (hrr.kp k₅) k₆ (Zm (W:=I::L::rd::hl::rw ::rf::a.vol) k₆ (fun b hb=>.inl (oW rdW b hb)) r₅) hg₅
 rw[←wd_up hk]at l₆
 have X₆:=X₅.mv (Ls':=LsA rd hl rw rf (wdPV (D.take (k+1))) (Hk D k) (Rk D k) (Fk D k)) k₆ (oW rdW) (o9 rdA) (one rdA) fun x hx=>by
  rcases mem4 hx with rfl |rfl |rfl |rfl
  ·exact .inl l₆
  ·exact .inr ⟨.tail _ (.head _),fun m=>n1 (List.mem_singleton.mp m).symm⟩
  ·exact .inr ⟨.tail _ (.tail _ (.head _)),fun m=>n2 (List.mem_singleton.mp m).symm⟩
  ·exact .inr ⟨.tail _ (.tail _ (.tail _ (.head _))),fun m=>n3 (List.mem_singleton.mp m).symm⟩
 have st₆:(c₆.wr ρ₄).St {s₅ with heap:=h₅}:=JF Ya st₅ rfl k₆ (fun b hb=>.inl (o9 rdA b hb)) (fun m=>nL rdA m) (fun b hb=>by rw[List.mem_singleton.mp hb];exact⟨_,hg₅⟩) X₆
 have go₆:=Xx st₆
 refine go₆ _ _ _ ?_
 have kk₆:=(kk₄.trans (.of k₅)).trans (k₆.sub (G:=FW) (oW (.tail _ (.tail _ (.head _)))))
 refine Ji st₆ (.str (prep (spell d))) (KS (o:=o416 w.params) (fn_prepared w g hg (spell d) (Nat.le_trans hsl (by decide))) (Xc (Xa rfl rfl rfl rfl) Xd rfl) (.inl rfl) (deep (n:=9) hdep (by decide)) rfl rfl rfl (by kernel_rfl) (by kernel_rfl) rfl ⟨_,rfl⟩) (.inl rfl) rfl fun s₇ st₇ k₇=> ?_
 refine Ji st₇ (.int (barD d)) (KS (o:=o423 w.params) (fn_bar w g hg (prep (spell d))) (Xc (Xa rfl rfl rfl rfl) Xd rfl) (.inl rfl) (deep (n:=9) hdep (by decide)) rfl rfl rfl (by kernel_rfl) (by kernel_rfl) rfl ⟨_,rfl⟩) (.inl rfl) rfl fun s₈ st₈ k₈=> ?_
 let ρ₉:List (Str×PV):=("bar",.int (barD d))::("prepared",.str (prep (spell d)))::ρ₄
 have st₈:(c₆.wr ρ₉).St s₈:=st₈
 have go₈:=Xx st₈
 refine go₈ _ _ _ ?_
 have kk₈:=(kk₆.trans (sub0 k₇)).trans (sub0 k₈)
 refine Xq (wpAny_mono (Q:=fun f s'=>f= .next∧((cf j (wdPV (D.take (k+1))) (Hk D (k+1)) (Rk D (k+1)) (Fk D k)).wr (("bar",.int (bOf d))::ρ₂)).St s'∧KpF false FW s s') (E:=fun _ _=>False) ?_ (fun f s₉ q=> ?_) fun _ _ x=>x.elim)
 ·have sub8:∀{b:Int} {W:List Addr} {Ls:List (Addr×List PV)} {hLW':L∈W} {hLs:∀x∈Ls,x.1∈AsA rd hl rw rf} {s':Shared},((cA w g A s₁ L a page sx dx hl (AsA rd hl rw rf) Cs W j Ls S hLW' hLs hh).wr (("bar",.int b)::("prepared",.str (prep (spell d)))::ρ₄)).St s'→((cA w g A s₁ L a page sx dx hl (AsA rd hl rw rf) Cs W j Ls S hLW' hLs hh).wr (("bar",.int b)::ρ₂)).St s':=fun st'=>st'.sub (Yf fun p hp=>by
   rcases mem9 hp with rfl |rfl |rfl |rfl |rfl |rfl |rfl |rfl |rfl<;>rfl)
  have hH1:=Wy hk
  have hR1:=Rk_up hk
  by_cases hb:barD d=0
  case neg=>
   have ebo:bOf d=barD d:=by unfold bOf;rw[if_neg hb]
   rw[ebo,if_neg hb,List.append_nil]at hH1
   rw[ebo,if_neg hb]at hR1
   rw[hH1,hR1,ebo]
   refine VJ (b:=false) (Xk (Xj (p:=.int (barD d)) (q:=.int 0) (Xa rfl rfl rfl rfl) Xe KE rfl) (beq_eq_false_iff_ne.mpr hb)) st₈ fun s₉ st₉ k₉=> ?_
   exact wpAny_execs_nil ⟨rfl,sub8 st₉,kk₈.trans (.of k₉)⟩
  case pos=>
  refine VJ (b:=true) (Xk (Xj (p:=.int (barD d)) (q:=.int 0) (Xa rfl rfl rfl rfl) Xe KE rfl) (beq_iff_eq.mpr hb)) st₈ fun s₉ st₉ k₉=> ?_
  have kk₉:=kk₈.trans (.of k₉)
  have X₉:x₆ s₉:=st₉.2.2
  let env:Env:=e₁
  have hA:(A.deeper env).frames=some [env]:=Around.frames_deeper hfr
  have hfrs:frs [env]=[L]:=rfl
  have hO:Outer s₉ [env]:=fun e he=>by
   rw[List.mem_singleton.mp he]
   obtain⟨m,⟨o,es,ep,e,hd,_⟩,_⟩:=st₉.2.1.ns
   exact⟨by kernel_rfl,L,o,_,_,rfl,S.L9,e,hd⟩
  have upst:∀h' tk,(hideAll s₉.heap (frs [env])).StaysIn h'→s₉.heap.UpToSlots h'→(c₆.wr ρ₉).St {s₉ with heap:=h',toks:=tk}:=fun h' tk h1 h2=>by
   have kf:=Wn (tk:=tk) hO h1 h2
   rw[hfrs]at kf
   have X':=X₉.slot kf hLW S.L9 ⟨S.La,S.Lx⟩ fun x hx=>S.LA _ (Ya x hx)
   exact JF Ya st₉ rfl kf.1 (fun b hb=>.inl (by have hb:b∈[L]:=hb;rw[List.mem_singleton.mp hb];exact S.L9)) (fun _ o e=>kf.2 L (List.mem_singleton.mpr rfl) o e) (fun b hb=>by
    have hb:b∈[L]:=hb
    rw[List.mem_singleton.mp hb]
    obtain⟨m,⟨o,es,ep,e,hd,_⟩,_⟩:=st₉.2.1.ns
    obtain⟨sl,e2⟩:=kf.2 L (List.mem_singleton.mpr rfl) o e
    exact⟨_,e2⟩) X'
  refine wpAny_execs_cons (wpAny_mono (wp_tryP (P:=(prep (spell d)).cps.toList.any nmP=true) (Q:=fun f s'=>f= .next∧((cf j (wdPV (D.take (k+1))) (Hk D (k+1)) (Rk D (k+1)) (Fk D k)).wr (("bar",.int (bOf d))::ρ₂)).St s'∧KpF false FW s s') (E:=fun _ _=>False) (outer:=[]) (L:=L) (base:=hideAll s₉.heap (frs [env])) hA rfl ?_ (fun hP A' h' tk h1 h2=> ?_) fun hP A' h' tk h1 h2=> ?_) (fun f s' q=> ?_) fun _ _ x=>x.elim)
  ·refine Xq (wpAny_Expr_any (wp_methN (f:=385) (sx:=sx) (C:=388) (K:=KHd w.params) (ps:=[.str (prep (spell d)),.str (spell d)]) st₉ (Xa rfl rfl rfl rfl) (fun s' st'=>YU st'.1) (fun s' st'=> ?_) (by kernel_rfl) (by kernel_rfl) (by kernel_rfl) (by kernel_rfl) (by kernel_rfl) rfl rfl (Xc (Xa rfl rfl rfl rfl) (Xc (Xa rfl rfl rfl rfl) Xd rfl) rfl) rfl rfl fun vs s₁₀ r₁₀ k₁₀ st₁₀=> ?_))
   ·obtain⟨ox,od,I,_,_,h⟩:=st'.2.2.hd.inst3
    exact⟨ox,od,I,h⟩
   obtain⟨u1,u2,g1,g2⟩:=Wi r₁₀
   have X₁₀:x₆ s₁₀:=st₁₀.2.2
   obtain⟨vh,nh,hhg,hhr⟩:=X₁₀.ls (hl,Xf (Hk D k)) (by repeat constructor)
   have hHl:vh.length≤100:=by
    rw[hhr.length]
    unfold Xf
    rw[List.length_map]
    exact Nat.le_trans Va hDl
   have hkb:(hideAll s₉.heap (frs [env])).StaysIn s₁₀.heap:=fun b o e=>k₁₀.get0 (of_hideAll _ e)
   have hfl:s₁₀.heap.FunFrames (hideAll s₉.heap (frs [env])) [env]:=(hO.kp k₁₀).funs fun e he L' hf=>hideAll_none _ (UF he hf)
   refine wpAny_mono (add_header_ok (A:=A.deeper env) (V:=VW) (Nat.le_trans hpl (Nat.le_trans (Nat.mul_le_mul_left 18 hsl) (by decide))) (Nat.le_trans hsl (by decide)) hv hh (show A.depth+1+2<recursionLimit from dep2 hdep (by decide)) st₁₀.1 st₁₀.2.1.vol X₁₀.hd (S.A9 hl hlA) hlW hhg (by rw[List.size_toArray];exact Nat.le_trans hHl (by decide)) g1 g2 hA hkb hfl) (fun r s₁₁ q=>⟨rfl,?_⟩) fun e s' q=>⟨q.1,q.2.from (lm:=false) k₁₀⟩
   obtain⟨_,hnm,k₁₁,tv,m₁₁,hg₁₁,hr₁₁⟩:=q
   have ebo:bOf d=0:=by unfold bOf;rw[if_pos hb,hnm,if_neg Bool.false_ne_true]
   rw[ebo,if_pos rfl]at hH1 hR1
   rw[ebo,hR1]
   have l₁₁:=JQ hlW hhr k₁₁ hr₁₁ hg₁₁
   have eH:Xf (Hk D k)++[.tup [.str (prep (spell d)),.str (spell d)]]=Xf (Hk D (k+1)):=by
    rw[hH1]
    unfold Xf
    rw[List.map_append];rfl
   rw[eH]at l₁₁
   have X₁₁:=X₁₀.mv (Ls':=LsA rd hl rw rf (wdPV (D.take (k+1))) (Hk D (k+1)) (Rk D k) (Fk D k)) k₁₁ (oW hlW) (o9 hlA) (one hlA) fun x hx=>by
    rcases mem4 hx with rfl |rfl |rfl |rfl
    ·exact .inr ⟨.head _,fun m=>n1 (List.mem_singleton.mp m)⟩
    ·exact .inl l₁₁
    ·exact .inr ⟨.tail _ (.tail _ (.head _)),fun m=>n4 (List.mem_singleton.mp m).symm⟩
    ·exact .inr ⟨.tail _ (.tail _ (.tail _ (.head _))),fun m=>n5 (List.mem_singleton.mp m).symm⟩
   have st₁₁:(c₁₁.wr ρ₉).St s₁₁:=JF Ya st₁₀ rfl k₁₁ (fun b hb=>.inl (o9 hlA b hb)) (fun m=>nL hlA m) (fun b hb=>by rw[List.mem_singleton.mp hb];exact⟨_,hg₁₁⟩) X₁₁
   have kk₁₁:=(kk₉.trans (.of k₁₀)).trans (k₁₁.sub (G:=FW) (oW (.tail _ (.tail _ (.tail _ (.head _))))))
   have go₁₁:=Xx st₁₁
   refine go₁₁ _ _ _ ?_
   refine Xq (wpAny_Expr_any (KI (fv:=.ref 184) (K:=[(184,o184 w.params)]) st₁₁ (XA rfl (by kernel_rfl) rfl) (fun s' st'=>XD st'.1 fun p hp=>by rw[List.mem_singleton]at hp;subst hp;exact⟨rfl,by kernel_rfl⟩) (by kernel_rfl) (ps:=[.val (.ref rw),.tup [.str (prep (spell d)),.str (spell d)]]) (Xc (Xa rfl rfl rfl rfl) (Xc (Yp (Xc (Xa rfl rfl rfl rfl) (Xc (Xa rfl rfl rfl rfl) Xd rfl) rfl) (show 2≤sizeLine by decide +kernel)) Xd rfl) rfl) rfl fun vs s₁₂ r₁₂ k₁₂ st₁₂=> ?_))
   obtain⟨u1,u2,g1,g2⟩:=Wi r₁₂
   rw[Rep]at g1
   subst g1
   have X₁₂:x₁₁ s₁₂:=st₁₂.2.2
   have hvl:∀b∈VW,439≤b∧∃o,s₁₂.heap.get? b=some o:=st₁₂.2.1.vol
   refine law_lam st₁₂ X₁₂.t435 (fun b hb=>let⟨_,_,e⟩:=hvl b hb;Heap.lt_size e) fun fa objs s₁₃ k₁₃ T₁₃ xo₁₃ key₁₃ fun₁₃ o9₁₃=> ?_
   have X₁₃:=X₁₂.tab (t:=435) k₁₃ rfl (fun b hb=>(hvl b hb).1) (fun x hx=>S.A9 _ (Ya x hx)) (fun _=>T₁₃) (fun h=>absurd h (by decide)) (by decide)
   have st₁₃:(c₁₁.wr ρ₉).St s₁₃:=JF Ya st₁₂ rfl k₁₃ (fun b hb=>.inr (by rw[List.mem_singleton.mp hb];rfl)) (fun m=>absurd S.L9 (by rw[List.mem_singleton.mp m];decide)) (fun b hb=>by rw[List.mem_singleton.mp hb];obtain⟨ps,e,_⟩:=T₁₃;exact⟨_,e⟩) X₁₃
   refine⟨XD st₁₃.1 fun p hp=>by rw[List.mem_singleton]at hp;subst hp;exact⟨rfl,by kernel_rfl⟩,?_⟩
   obtain⟨vw,nw,hwg,hwr⟩:=X₁₃.ls (rw,Xf (Rk D k)) (by repeat constructor)
   have e0:∀b d' x n,tb VW b=false→s₁₃.heap.get? b=some ⟨d',Option.none,.seq x n,#[]⟩→tb [] b=false:=fun b d' x n hb _=>Yx (Xu hb) List.not_mem_nil
   have g2':Rep VW s₁₃.heap (.tup [.str (prep (spell d)),.str (spell d)]) u2:=Zm k₁₃ (fun b hb=>.inr (by rw[List.mem_singleton.mp hb];rfl)) g2
   have hRl:(Xf (Rk D k)).length≤100:=by
    unfold Xf
    rw[List.length_map]
    exact Nat.le_trans Rk_len hDl
   refine wpAny_mono (insort_ok (A:=A₁) (n:=1) (f:=fstS) (ps:=Xf (Rk D k)) (q:=.tup [.str (prep (spell d)),.str (spell d)]) (tk:=2638) (Nat.le_trans hRl (by decide)) (fun p hp=> ?_) fun₁₃ o9₁₃ hh (show A.depth+1+(1+2)<recursionLimit from dep2 hdep (by decide)) st₁₃.1 xo₁₃ (S.A9 rw rwA) hwg (hwr.sub e0) (g2'.sub e0) (fun S=>by kernel_rfl)) (fun r s₁₄ q=>⟨rfl,wpAny_execs_nil ?_⟩) fun _ _ x=>x.elim
   ·rcases Xz.mp hp with rfl |hp
    ·exact key₁₃ _ _
    ·obtain⟨p',hp',rfl⟩:=List.mem_map.mp hp
     exact key₁₃ _ _
   obtain⟨k₁₄,m₁₄,hg₁₄⟩:=q
   have hF14:∀b∈[rw],b∈VW∨Xp b=true:=fun b hb=>.inl (oW rwW b hb)
   have l₁₄:Ka VW s₁₄.heap rw (Xf (insR (Rk D k) (pwd d))):=by
    rw[tupPV_insR]
    have hr:=Ue k₁₄ hF14 hwr
    exact⟨_,_,hg₁₄,(hr.take _).append (Xl (Zm k₁₄ hF14 g2') (hr.drop _))⟩
   have X₁₄:=X₁₃.mv (Ls':=LsA rd hl rw rf (wdPV (D.take (k+1))) (Hk D (k+1)) (insR (Rk D k) (pwd d)) (Fk D k)) k₁₄ (oW rwW) (o9 rwA) (one rwA) fun x hx=>by
    rcases mem4 hx with rfl |rfl |rfl |rfl
    ·exact .inr ⟨.head _,fun m=>n2 (List.mem_singleton.mp m)⟩
    ·exact .inr ⟨.tail _ (.head _),fun m=>n4 (List.mem_singleton.mp m)⟩
    ·exact .inl l₁₄
    ·exact .inr ⟨.tail _ (.tail _ (.tail _ (.head _))),fun m=>n6 (List.mem_singleton.mp m).symm⟩
   have st₁₄:=sub8 (JF Ya st₁₃ rfl k₁₄ (fun b hb=>.inl (o9 rwA b hb)) (fun m=>nL rwA m) (fun b hb=>by rw[List.mem_singleton.mp hb];exact⟨_,hg₁₄⟩) X₁₄)
   rw[hb]at st₁₄
   exact⟨rfl,st₁₄,((kk₁₁.trans (.of k₁₂)).trans (k₁₃.sub (oW (.head _)))).trans (k₁₄.sub (oW (.tail _ (.tail _ (.tail _ (.tail _ (.head _)))))))⟩
  ·exact name_bltX (upst h' tk h1 h2) rfl (by kernel_rfl) (by kernel_rfl) rfl _ _ _ _ ⟨rfl,rfl⟩
  ·have stN':=upst h' tk h1 h2
   have ebo:bOf d=1:=by unfold bOf;rw[if_pos hb,if_pos hP]
   rw[ebo,if_neg (by decide),List.append_nil]at hH1
   rw[ebo,if_neg (by decide)]at hR1
   rw[hH1,hR1,ebo]
   refine asgXi (c:=c₆.wr ρ₉) (x:="bar") (i:=1) stN' (.inl rfl) rfl _ _ _ fun s₂₁ s' k₂₁ st' k'=> ?_
   have kf:=Wn (tk:=tk) hO h1 h2
   rw[hfrs]at kf
   refine⟨rfl,st'.sub (Yf fun p hp=> ?_),((kk₉.trans (kf.1.sub (oW (.tail _ (.head _))))).trans (.of k₂₁)).trans (sub0 k')⟩
   rcases mem9 hp with rfl |rfl |rfl |rfl |rfl |rfl |rfl |rfl |rfl<;>rfl
  ·obtain⟨rfl,q⟩:=q
   exact wpAny_execs_nil ⟨rfl,q⟩
 ·obtain⟨rfl,st₉,kk₉⟩:=q
  refine⟨rfl,?_⟩
  have go₉:=Xx st₉
  refine go₉ _ _ _ ?_
  have hjb:j≤page.length+1:=by
   rcases hj with q |q
   ·lia
   ·exact absurd q hsp
  have fin:∀{s':Shared},((cf j (wdPV (D.take (k+1))) (Hk D (k+1)) (Rk D (k+1)) (Fk D (k+1))).wr (("bar",.int (bOf d))::ρ₂)).St s'→
   ((cf j (wdPV (D.take (k+1))) (Hk D (k+1)) (Rk D (k+1)) (Fk D (k+1))).wr (ρ₀)).St s':=fun st'=>st'.sub (Yf fun p hp=>by
     rcases mem7 hp with rfl |rfl |rfl |rfl |rfl |rfl |rfl<;>rfl)
  have hF1:=Fk_up hk
  by_cases hb0:bOf d=0
  ·rw[if_pos hb0,List.append_nil]at hF1
   refine Ye (b:=false) st₉ (Xk (Xj (p:=.int (bOf d)) (q:=.int 0) (Xa rfl rfl rfl rfl) Xe KD rfl) (bne_eq_false_iff_eq.mpr hb0)) fun s₁₀ st₁₀ k₁₀=> ?_
   exact wpAny_execs_nil (wpAny_execs_nil (hQ _ _ ⟨rfl,⟨j,hjb,hdrop,fin (by rw[hF1];exact st₁₀)⟩,kk₉.trans (.of k₁₀)⟩))
  ·rw[if_neg hb0]at hF1
   refine Ye (b:=true) st₉ (Xk (Xj (p:=.int (bOf d)) (q:=.int 0) (Xa rfl rfl rfl rfl) Xe KD rfl) (bne_iff_ne.mpr hb0)) fun s₁₀ st₁₀ k₁₀=> ?_
   have X₁₀:xf j (wdPV (D.take (k+1))) (Hk D (k+1)) (Rk D (k+1)) (Fk D k) s₁₀:=st₁₀.2.2
   obtain⟨vf,nf,hfg,hfrr⟩:=X₁₀.ls (rf,YE (Fk D k)) (by repeat constructor)
   have hfl:vf.length≤100:=by
    rw[hfrr.length]
    unfold YE
    rw[List.length_map]
    exact Nat.le_trans Fk_len (Nat.le_trans (Nat.le_of_lt (List.getElem?_eq_some_iff.mp hk).1) hDl)
   refine Xq (wpAny_Expr_any (Jl st₁₀ (a:=rf) (p:=.tup [.int (k:Nat),.int (bOf d)]) (Xa rfl rfl rfl rfl) (Yp (Xc (Xa rfl rfl rfl rfl) (Xc (Xa rfl rfl rfl rfl) Xd rfl) rfl) (show 2≤sizeLine by decide +kernel)) rfl rfl (Xv (S.A9 rf rfA)) hfg (by rw[List.size_toArray];exact Nat.le_trans hfl (by decide)) fun v s₁₁ h₁₁ r₁₁ k₁₁ st₁₁ hsb₁₁ hg₁₁=>⟨rfl,wpAny_execs_nil (wpAny_execs_nil ?_)⟩))
   have X₁₁:xf j (wdPV (D.take (k+1))) (Hk D (k+1)) (Rk D (k+1)) (Fk D k) s₁₁:=st₁₁.2.2
   have k₁₂:KpF false [rf] s₁₁ {s₁₁ with heap:=h₁₁}:=.same hsb₁₁
   have l₁₂:=JQ rfW (hfrr.kp k₁₁) k₁₂ (Zm (W:=I::L::rd::hl::rw ::rf::a.vol) k₁₂ (fun b hb=>.inl (oW rfW b hb)) r₁₁) hg₁₁
   have eF:YE (Fk D k)++[.tup [.int (k:Nat),.int (bOf d)]]=YE (Fk D (k+1)):=by
    rw[hF1]
    unfold YE
    rw[List.map_append];rfl
   rw[eF]at l₁₂
   have X₁₂:=X₁₁.mv (Ls':=LsA rd hl rw rf (wdPV (D.take (k+1))) (Hk D (k+1)) (Rk D (k+1)) (Fk D (k+1))) k₁₂ (oW rfW) (o9 rfA) (one rfA) fun x hx=>by
    rcases mem4 hx with rfl |rfl |rfl |rfl
    ·exact .inr ⟨.head _,fun m=>n3 (List.mem_singleton.mp m)⟩
    ·exact .inr ⟨.tail _ (.head _),fun m=>n5 (List.mem_singleton.mp m)⟩
    ·exact .inr ⟨.tail _ (.tail _ (.head _)),fun m=>n6 (List.mem_singleton.mp m)⟩
    ·exact .inl l₁₂
   have st₁₂:=JF Ya st₁₁ rfl k₁₂ (fun b hb=>.inl (o9 rfA b hb)) (fun m=>nL rfA m) (fun b hb=>by rw[List.mem_singleton.mp hb];exact⟨_,hg₁₁⟩) X₁₂
   exact hQ _ _ ⟨rfl,⟨j,hjb,hdrop,fin st₁₂⟩,((kk₉.trans (.of k₁₀)).trans (.of k₁₁)).trans (k₁₂.sub (oW (.tail _ (.tail _ (.tail _ (.tail _ (.tail _ (.head _))))))))⟩
noncomputable def Wv:List Stmt:=match(fdB (stN 36))[12]? with |some (Stmt.For _ _ b _ _)=>b |_=>[]
structure NmOk(d:Nat):Prop where
 bar:bOf d=if 14∈Xg d then(Jr d:Int)else if 15∈Xg d then 1 else 0
 mean:14∉Xg d→15∉Xg d→prep (spell d)=cat (XR d)
theorem Jq(d:Nat):(Jr d:Int)≠0:=by
 have h:∀j:Nat,j<5→((tabL.getD j 0:Nat):Int)≠0:=by decide
 exact h _ (Nat.mod_lt _ (by decide))
noncomputable abbrev LsB(kp du:Addr)(H:List (Str×Str))(F:List (Nat×Int)):List (Addr×List PV):=[(kp,Xf H),(du,YE F)]
theorem Zz{kp du:Addr}{H:List (Str×Str)}{F:List (Nat×Int)}:∀x∈LsB kp du H F,x.1∈([kp,du]:List Addr):=fun x hx=>by
 simp only[List.mem_cons,List.not_mem_nil,or_false]at hx ⊢
 rcases hx with rfl |rfl<;>simp
theorem kinds_in(d k:Nat):((Xg d).map fun k:Nat=>(k:Int)).any (· ==(k:Int))=decide (k∈Xg d):=Ul d 3 k
section
variable{c:Cx}
theorem ev_nmat{D:List Nat}{nv:Value}{k d:Nat}{p1 p2 p3 p4 p5:Pos}{m:Nat}{i:Int}{r:PV}(hρ:c.ρ.lookup (Str.ofString "names")=some (.val nv))(hk:c.env.kindOf (Str.ofString "names")=some .local)(hρk:c.ρ.lookup (Str.ofString "k")=some (.int (k:Nat)))(hkk:c.env.kindOf (Str.ofString "k")=some .local)(hn:∀s,c.St s→Rep c.V s.heap (.lst (D.map Xw)) nv)(hd:D[k]? =some d)(h0:0≤i)(hi:i<4)
(hr:([.str (spell d),.lst ((XR d).map .str),.lst ((Xg d).map fun k:Nat=>.int (k:Int)),.int (Jr d:Nat)]:List PV)[i.toNat]? =some r)(hD:D.length≤100):EvOk c (.Subscript (.Subscript (.Name "names" p1) (.Name "k" p2) p3) (.Constant (.int i) m p4) p5) r:=by
 have hlt:k<D.length:=(List.getElem?_eq_some_iff.mp hd).1
 refine XY (p:=Xw d) (q:=.int i) (XY (p:=.lst (D.map Xw)) (q:=.int (k:Nat)) (YB (Xa hρ (by rw[hk]) rfl rfl) hn) (Xa hρk (by rw[hkk]) rfl rfl) (item_of_lst (by lia) (by lia) ?_) rfl) Xe (XX h0 (by lia) hr) rfl
 rw[Int.toNat_natCast,List.getElem?_map,hd];rfl
end
theorem body2{w:World}{g:Nat→Obj}{A:Around}{s₁:Shared}{L:Addr}{a:LexA}{page:Str}{sx dx hl kp du I:Addr}{nv:Value}{Cs:List (PV×Value)}{S:SA L a sx dx [kp,du]}{hh:A.handled=none}{ρ2:List (Str×PV)}(hfl:(ρ2.all fun x=>flat x.2)=true)(hρn:ρ2.lookup (Str.ofString "names")=some (.val nv))(hρk:ρ2.lookup (Str.ofString "kept")=some (.val (.ref kp)))(hρd:ρ2.lookup (Str.ofString "due")=some (.val (.ref du)))
(hnd:kp≠du){D:List Nat}(hDl:D.length≤100)(hCs:(PV.lst (D.map Xw),nv)∈Cs){k d i:Nat}(hk:D[k]? =some d)(N:NmOk d)
{hLW:L∈I::L::kp::du::a.vol}{s:Shared}
(st:((cA w g A s₁ L a page sx dx hl [kp,du] Cs (I::L::kp::du::a.vol) i (LsB kp du (Hk D k) (Fk D k)) S hLW Zz hh).wr (("k",.int k)::ρ2)).St s):
 wpAny (model pw w) (A.deeper (callEnv (fdOf (o438 w.params)) L 438)) (execs Wv (callEnv (fdOf (o438 w.params)) L 438)) (fun f s'=>f= .next∧
  ((cA w g A s₁ L a page sx dx hl [kp,du] Cs (I::L::kp::du::a.vol) i (LsB kp du (Hk D (k+1)) (Fk D (k+1))) S hLW Zz hh).wr (("k",.int k)::ρ2)).St s'∧KpF false (L::kp::du::a.vol) s s') (fun _ _=>False) s:=by
 have hbody:Wv=Wv:=rfl
 conv at hbody=>rhs;whnf
 rw[hbody]
 let VW:List Addr:=I::L::kp::du::a.vol
 let FW:List Addr:=L::kp::du::a.vol
 let e₁:Env:=callEnv (fdOf (o438 w.params)) L 438
 let A₁:Around:=A.deeper e₁
 let cf (H:List (Str×Str)) (F:List (Nat×Int)):Cx:=cA w g A s₁ L a page sx dx hl [kp,du] Cs VW i (LsB kp du H F) S hLW Zz hh
 let xf (H:List (Str×Str)) (F:List (Nat×Int)):Shared→Prop:=LF s₁ w.params a page sx dx hl Cs VW i (LsB kp du H F)
 let ρ₀:List (Str×PV):=("k",.int k)::ρ2
 have st:((cf (Hk D k) (Fk D k)).wr ρ₀).St s:=st
 have go:=Xx st
 refine go _ _ _ ?_
 have hH1:=Wy hk
 have hF1:=Fk_up hk
 have look:∀{x:Str} {v:PV},(x==Str.ofString "k")=false→ρ2.lookup x=some v→((Str.ofString "k",PV.int (k:Nat))::ρ2).lookup x=some v:=fun{x v} h e=>by
  rw[List.lookup_cons]
  have:(x==("k":Str))=false:=h
  rw[this];exact e
 have kl:k<D.length:=(List.getElem?_eq_some_iff.mp hk).1
 have nms:∀{j:Int} {r:PV} {p1 p2 p3 p4 p5:Pos} {m:Nat},0≤j→j<4→([.str (spell d),.lst ((XR d).map .str),.lst ((Xg d).map fun k:Nat=>.int (k:Int)),.int (Jr d:Nat)]:List PV)[j.toNat]? =some r→EvOk ((cf (Hk D k) (Fk D k)).wr ρ₀) (.Subscript (.Subscript (.Name "names" p1) (.Name "k" p2) p3) (.Constant (.int j) m p4) p5) r:=fun h0 h4 hr=>ev_nmat (look (by decide +kernel) hρn) rfl (by rfl) rfl (fun s st=>st.2.2.cs _ hCs) hk h0 h4 hr hDl
 have kpW:kp∈VW:=.tail _ (.tail _ (.head _))
 have duW:du∈VW:=.tail _ (.tail _ (.tail _ (.head _)))
 have kpA:kp∈([kp,du]:List Addr):=by simp
 have duA:du∈([kp,du]:List Addr):=by simp
 have one:∀{x:Addr},x∈([kp,du]:List Addr)→∀b∈[x],b∉a.all∧b≠sx∧b≠dx:=fun{x} hx b hb=>by
  rw[List.mem_singleton.mp hb];exact⟨S.Aa x hx,S.Ax x hx⟩
 have nL:∀{x:Addr} {P:Prop},x∈([kp,du]:List Addr)→L∈[x]→P:=fun hx m=>absurd (List.mem_singleton.mp m).symm (S.LA _ hx)
 have o9:∀{x:Addr},x∈([kp,du]:List Addr)→∀b∈[x],439≤b:=fun{x} hx b hb=>by rw[List.mem_singleton.mp hb];exact S.A9 x hx
 have oW:∀{x:Addr} {W:List Addr},x∈W→∀b∈[x],b∈W:=fun{x W} hx b hb=>by rw[List.mem_singleton.mp hb];exact hx
 have hfl':(((Str.ofString "k",PV.int (k:Nat))::ρ2).all fun x=>flat x.2)=true:=by
  rw[List.all_cons,hfl];rfl
 -- the list due grows
 have addD:∀{e:PySem.Expr} {p1 p2 p3 p4:Pos} {b:Int} {s₂:Shared},bOf d=b→b≠0→XV e=false→(p2.endLine==p3.line)=true→
  EvOk ((cf (Hk D k) (Fk D k)).wr ρ₀) e (.tup [.int (k:Nat),.int b])→
  ((cf (Hk D k) (Fk D k)).wr ρ₀).St s₂→
  wpAny (model pw w) (A₁) (execs [.Expr (.Call (.Attribute (.Name "due" p1) "append" p2) [e] [] p3) p4] e₁) (fun f s'=>f= .next∧
   ((cf (Hk D (k+1)) (Fk D (k+1))).wr ρ₀).St s'∧KpF false FW s₂ s') (fun _ _=>False) s₂:=by
  intro e p1 p2 p3 p4 b s₂ hb hb0 hst hl he st₂
  have X₂:xf (Hk D k) (Fk D k) s₂:=st₂.2.2
  rw[hb,if_neg hb0]at hF1
  rw[hb,if_neg hb0,List.append_nil]at hH1
  rw[hH1]
  obtain⟨vd,nd,hdg,hdr⟩:=X₂.ls (du,YE (Fk D k)) (by repeat constructor)
  have hdl:vd.length≤100:=by
   rw[hdr.length]
   unfold YE
   rw[List.length_map]
   have:=Fk_len (D:=D) (k:=k)
   lia
  refine Xq (wpAny_Expr_any (Jl st₂ (a:=du) (p:=.tup [.int (k:Nat),.int b]) (Xa (look (by decide +kernel) hρd) rfl rfl rfl) he hst hl (Xv (S.A9 du duA)) hdg (by rw[List.size_toArray];lia) fun v s₃ h₃ r₃ k₃ st₃ hsb₃ hg₃=>⟨rfl,wpAny_execs_nil ?_⟩))
  have X₃:xf (Hk D k) (Fk D k) s₃:=st₃.2.2
  have k₄:KpF false [du] s₃ {s₃ with heap:=h₃}:=.same hsb₃
  have l₄:=JQ duW (hdr.kp k₃) k₄ (Zm (W:=VW) k₄ (fun b hb=>.inl (oW duW b hb)) r₃) hg₃
  have eF:YE (Fk D k)++[.tup [.int (k:Nat),.int b]]=YE (Fk D (k+1)):=by
   rw[hF1]
   unfold YE
   rw[List.map_append];rfl
  rw[eF]at l₄
  have X₄:=X₃.mv (Ls':=LsB kp du (Hk D k) (Fk D (k+1))) k₄ (oW duW) (o9 duA) (one duA) fun x hx=>by
   rcases mem2 hx with rfl |rfl
   ·exact .inr ⟨by simp,fun m=>hnd (List.mem_singleton.mp m)⟩
   ·exact .inl l₄
  exact⟨rfl,JF Zz st₃ hfl' k₄ (fun b hb=>.inl (o9 duA b hb)) (fun m=>nL duA m) (fun b hb=>by rw[List.mem_singleton.mp hb];exact⟨_,hg₃⟩) X₄,(KpF.of k₃).trans (k₄.sub (oW (.tail _ (.tail _ (.head _)))))⟩
 have NB:=N.bar
 have eK:PV.lst ((Xg d).map fun k:Nat=>.int (k:Int))= .lst (((Xg d).map fun k:Nat=>(k:Int)).map PV.int):=by rw[List.map_map];rfl
 refine Ye (b:=decide (14∈Xg d)) st (Xk (Xj (p:=.int 14) (q:=.lst (((Xg d).map fun k:Nat=>(k:Int)).map PV.int)) Xe (YP (nms (j:=2) (by decide) (by decide) rfl) eK) Za rfl) (kinds_in d 14)) fun s₂ st₂ k₂=> ?_
 by_cases h14:14∈Xg d
 ·rw[decide_eq_true h14,if_pos rfl]
  rw[if_pos h14]at NB
  refine wpAny_mono (addD NB (Jq d) rfl rfl (Yp (Xc (Xa (by rfl) rfl rfl rfl) (Xc (nms (j:=3) (by decide) (by decide) rfl) Xd rfl) rfl) (show 2≤sizeLine by decide +kernel)) st₂) (fun f s' q=> ?_) fun _ _ x=>x
  obtain⟨rfl,st',k'⟩:=q
  exact wpAny_execs_nil ⟨rfl,st',(KpF.of k₂).trans k'⟩
 ·rw[decide_eq_false h14,if_neg Bool.false_ne_true]
  rw[if_neg h14]at NB
  refine Ye (b:=decide (15∈Xg d)) st₂ (Xk (Xj (p:=.int 15) (q:=.lst (((Xg d).map fun k:Nat=>(k:Int)).map PV.int)) Xe (YP (nms (j:=2) (by decide) (by decide) rfl) eK) Za rfl) (kinds_in d 15)) fun s₃ st₃ k₃=> ?_
  by_cases h15:15∈Xg d
  ·rw[decide_eq_true h15,if_pos rfl]
   rw[if_pos h15]at NB
   refine wpAny_mono (addD NB (by decide) rfl rfl (Yp (Xc (Xa (by rfl) rfl rfl rfl) (Xc Xe Xd rfl) rfl) (show 2≤sizeLine by decide +kernel)) st₃) (fun f s' q=> ?_) fun _ _ x=>x
   obtain⟨rfl,st',k'⟩:=q
   exact wpAny_execs_nil (wpAny_execs_nil ⟨rfl,st',((KpF.of k₂).trans (.of k₃)).trans k'⟩)
  ·rw[decide_eq_false h15,if_neg Bool.false_ne_true]
   rw[if_neg h15]at NB
   rw[NB,if_pos rfl]at hH1
   rw[NB,if_pos rfl,List.append_nil]at hF1
   rw[hF1]
   have X₃:xf (Hk D k) (Fk D k) s₃:=st₃.2.2
   obtain⟨vd,nd,hdg,hdr⟩:=X₃.ls (kp,Xf (Hk D k)) (by repeat constructor)
   have hdl:vd.length≤100:=by
    rw[hdr.length]
    unfold Xf
    rw[List.length_map]
    exact Nat.le_trans Va hDl
   have hw:=mean_weight d 3
   have e3:(XR d).take 3=XR d:=rfl
   rw[e3]at hw
   refine Xq (wpAny_Expr_any (Jl st₃ (a:=kp) (p:=.tup [.str (cat (XR d)),.str (spell d)]) (Xa (look (by decide +kernel) hρk) rfl rfl rfl) (Yp (Xc (UG (xs:=XR d) XK (nms (j:=1) (by decide) (by decide) rfl) rfl rfl rfl (by lia)) (Xc (nms (j:=0) (by decide) (by decide) rfl) Xd rfl) rfl) (show 2≤sizeLine by decide +kernel)) rfl rfl (Xv (S.A9 kp kpA)) hdg (by rw[List.size_toArray];lia) fun v s₄ h₄ r₄ k₄ st₄ hsb₄ hg₄=>⟨rfl,wpAny_execs_nil (wpAny_execs_nil (wpAny_execs_nil ?_))⟩))
   have X₄:xf (Hk D k) (Fk D k) s₄:=st₄.2.2
   have k₅:KpF false [kp] s₄ {s₄ with heap:=h₄}:=.same hsb₄
   have l₅:=JQ kpW (hdr.kp k₄) k₅ (Zm (W:=VW) k₅ (fun b hb=>.inl (oW kpW b hb)) r₄) hg₄
   have eH:Xf (Hk D k)++[.tup [.str (cat (XR d)),.str (spell d)]]=Xf (Hk D (k+1)):=by
    rw[hH1,←N.mean h14 h15]
    unfold Xf
    rw[List.map_append];rfl
   rw[eH]at l₅
   have X₅:=X₄.mv (Ls':=LsB kp du (Hk D (k+1)) (Fk D k)) k₅ (oW kpW) (o9 kpA) (one kpA) fun x hx=>by
    rcases mem2 hx with rfl |rfl
    ·exact .inl l₅
    ·exact .inr ⟨by simp,fun m=>hnd (List.mem_singleton.mp m).symm⟩
   exact⟨rfl,JF Zz st₄ hfl' k₅ (fun b hb=>.inl (o9 kpA b hb)) (fun m=>nL kpA m) (fun b hb=>by rw[List.mem_singleton.mp hb];exact⟨_,hg₄⟩) X₅,(((KpF.of k₂).trans (.of k₃)).trans (.of k₄)).trans (k₅.sub (oW (.tail _ (.head _))))⟩
noncomputable def Wu:List Stmt:=match(fdB (stN 36))[15]? with |some (Stmt.For _ _ [Stmt.For _ _ b _ _] _ _)=>b |_=>[]
theorem LF.fnd{s₁:Shared}{P:Params}{a:LexA}{page:Str}{sx dx hl L:Addr}{As:List Addr}{Cs:List (PV×Value)}{W:List Addr}{i:Nat}{Ls:List (Addr×List PV)}{s s':Shared}(X:LF s₁ P a page sx dx hl Cs W i Ls s)(k:Fl [425] [L] s s')(T:TabG W s'.heap 425 (q425 P))(S:SA L a sx dx As)(hLW:L∈W)(hLs:∀x∈Ls,x.1∈As):LF s₁ P a page sx dx hl Cs W i Ls s':=by
 have k':KpF false [425,L] s s':=k.1
 have hF':∀b∈([425,L]:List Addr),b∈W∨Xp b=true:=fun b hb=>by
  rcases mem2 hb with rfl |rfl
  ·exact .inr rfl
  ·exact .inl hLW
 have n9:∀{b:Nat},439≤b→b≠L→b∉([425,L]:List Addr):=fun hb hn m=>by
  rcases mem2 m with rfl |m
  ·exact absurd hb (by decide)
  ·exact hn m.symm
 have n4:∀{b:Nat},b<439→b≠425→b∉([425,L]:List Addr):=fun hb hn m=>by
  simp only[List.mem_cons,List.not_mem_nil,or_false]at m
  rcases m with m |rfl
  ·exact hn m
  ·exact absurd S.L9 (Nat.not_le.mpr hb)
 refine⟨X.lex.kpf (fun b hb=>n9 (X.big b hb) fun e=>S.La (e▸hb)) k',X.hd.at fun b o h9 hb e=>k'.get0 (n9 h9 fun q=> ?_) e,fun x hx=>(X.ls x hx).mv k' hF' (n9 (S.A9 _ (hLs x hx)) (S.LA _ (hLs x hx))),fun x hx=>Zm k' hF' (X.cs x hx),X.t435.kpf k' (n4 (by decide) (by decide)) hF',T,?_,X.trs k' fun b hb=> ?_⟩
 ·rcases hb with rfl |rfl
  ·exact S.Lx.1 q.symm
  ·exact S.Lx.2 q.symm
 ·obtain⟨ps,e⟩:=X.t394
  exact⟨ps,k'.get0 (n4 (by decide) (by decide)) e⟩
 ·simp only[List.mem_cons,List.not_mem_nil,or_false]at hb ⊢
  rcases hb with rfl |rfl
  ·exact .inr (.inl rfl)
  ·exact .inr (.inr (.inr hLW))
theorem wp_cmpR{c:Cx}{l r:PySem.Expr}{op:CmpOp}{pos:Pos}{p q:PV}{b:Bool}{s:Shared}{Q:Bool→Shared→Prop}{E:Value→Shared→Prop}(hl:wpAny (model pw c.w) c.A (eval l c.env) (fun v s₁=>c.St s₁∧Rep c.V s₁.heap p v∧∀s₂,Kp c.lam s₁ s₂→c.St s₂→Q b s₂) E s)(hr:EvOk c r q)(hc:Zi c op p q b)(hm:behindInMarks op r=false):
 wpAny (model pw c.w) c.A (isTrue (.Compare l [op] [r] pos) c.env (eval (.Compare l [op] [r] pos) c.env)) Q E s:=by
 rw[isTrue_Compare1,markedBehindIn_of_false hm]
 refine wpAny_bind (wpAny_mono hl (fun v s₁ h=> ?_) fun _ _ x=>x)
 obtain⟨st₁,r₁,k⟩:=h
 refine wpAny_bind (wpAny_holding (Xi hr st₁ fun u s₂ r₂ k₂ st₂=> ?_))
 refine wpAny_bind (wpAny_standAt (wpAny_bind (wpAny_operate' ?_)))
 refine wpAny_mono (hc s₂ v u st₂ (r₁.kp k₂) r₂) (fun x s' q=> ?_) (fun _ _ x=>x.elim)
 obtain⟨rfl,k₃⟩:=q
 exact wpAny_holding (wpAny_pure (k s' (k₂.trans k₃) (st₂.kp k₃)))
theorem body3{w:World}{g:Nat→Obj}(hg:Facts w g){A:Around}{s₁:Shared}{L:Addr}{a:LexA}{page:Str}{sx dx hl rw kp:Addr}{ov nm:Value}{Cs:List (PV×Value)}{W:List Addr}{i:Nat}{S:SA L a sx dx []}{hLW:L∈W}{hLs:∀x∈([]:List (Addr×List PV)),x.1∈([]:List Addr)}{hh:A.handled=none}(hdep:A.depth+10<recursionLimit)(hfr:A.frames=some [])(hu:A.units+3+64<cLine){ρ:List (Str×PV)}(hfl:(ρ.all fun x=>flat x.2)=true)
(q1:ρ.lookup (Str.ofString "row")=some (.val (.ref rw)))(q2:ρ.lookup (Str.ofString "table")=some (.val (.ref sx)))(q3:ρ.lookup (Str.ofString "kept")=some (.val (.ref kp)))(q4:ρ.lookup (Str.ofString "ordered")=some (.val ov))(q5:ρ.lookup (Str.ofString "name")=some (.val nm)){n:Nat}(q6:ρ.lookup (Str.ofString "count")=some (.int (n:Nat)))
{R H:List (Str×Str)}{d:Nat}(c1:(kvPV R,Value.ref rw)∈Cs)(c2:(kvPV H,Value.ref hl)∈Cs)(c3:(kvPV H,Value.ref kp)∈Cs)(c4:(kvPV R,ov)∈Cs)(c5:(Xw d,nm)∈Cs)(hR:R.length≤100)(hRs:∀p∈R,p.1.length≤1000)(hH:H.length≤100)(hHs:∀p∈H,(Txt.lower p.1).length≤1000)(hn3:n≤3)
(FD:JV R H (Str.sl (spell d) none (some n))=dueR H R d n)(ft:fitP (dueR H R d n)=true)(dp:dpt (dueR H R d n)≤64){s:Shared}(st:((cA w g A s₁ L a page sx dx hl [] Cs W i [] S hLW hLs hh).wr ρ).St s):
 wpAny (model pw w) (A.deeper (callEnv (fdOf (o438 w.params)) L 438)) (execs Wu (callEnv (fdOf (o438 w.params)) L 438)) (fun f s'=>f= .next∧((cA w g A s₁ L a page sx dx hl [] Cs W i [] S hLW hLs hh).wr ρ).St s'∧KpF false [425,L] s s') (fun _ _=>False) s:=by
 have hbody:Wu=Wu:=rfl
 conv at hbody=>rhs;whnf
 rw[hbody]
 let e₁:Env:=callEnv (fdOf (o438 w.params)) L 438
 let A₁:Around:=A.deeper e₁
 let cB:Cx:=cA w g A s₁ L a page sx dx hl [] Cs W i [] S hLW hLs hh
 let xB:Shared→Prop:=LF s₁ w.params a page sx dx hl Cs W i []
 have st:(cB.wr ρ).St s:=st
 have go:=Xx st
 refine go _ _ _ ?_
 have hsl:=Kh d
 have hsl2:(Str.sl (spell d) none (some n)).length≤3:=Nat.le_trans (VQ _ _ _) hsl
 have hA:(A₁).frames=some [e₁]:=Around.frames_deeper hfr
 have big:∀n:Nat,n≤1000→n≤sizeLine:=fun n h=>Nat.le_trans h (by decide +kernel)
 refine wpAny_execs_cons ?_
 rw[exec_If]
 refine wpAny_bind (wpAny_standAt (wpAny_bind ?_))
 refine wp_cmpR (c:=cB.wr ρ) (p:=dueR H R d n) (q:=dueR H R d n) (b:=false) ?_ ?_ (ZG ft dp hu) rfl
 ·refine KJ (fv:=.ref 428) (K:=[(428,o428 w.params)]) st (XA rfl (by kernel_rfl) rfl) (fun s' st'=>XD st'.1 fun p hp=>by rw[List.mem_singleton]at hp;subst hp;exact⟨rfl,by kernel_rfl⟩) (by kernel_rfl) (ps:=[kvPV R,.val (.ref sx),.str (Str.sl (spell d) none (some n))]) (Xc (YB (Xa q1 rfl rfl rfl) fun s st=>st.2.2.cs _ c1) (Xc (Xa q2 rfl rfl rfl) (Xc (YZ (q:=.str (spell d)) (XY (p:=Xw d) (q:=.int 0) (YB (Xa q5 rfl rfl rfl) fun s st=>st.2.2.cs _ c5) Xe (XX (by decide) (by decide) rfl) rfl) YR (Yy (n:=n) (Xa q6 rfl rfl rfl)) (Ki (big _ (by lia)))) Xd rfl) rfl) rfl) rfl fun vs s₂ r₂ k₂ st₂=> ?_
  obtain⟨u1,u2,u3,g1,g2,g3⟩:=Ws r₂
  rw[Rep]at g2
  subst g2
  have X₂:xB s₂:=st₂.2.2
  have hO:Outer s₂ [e₁]:=fun e he=>by
   rw[List.mem_singleton.mp he]
   obtain⟨m,⟨o,es,ep,e,hd,_⟩,_⟩:=st₂.2.1.ns
   exact⟨by kernel_rfl,L,o,_,_,rfl,S.L9,e,hd⟩
  refine wpAny_mono (found_ok hg (A:=A₁) (V:=W) hsl2 hR hRs hH hHs hh (show A.depth+1+5<recursionLimit from dep2 hdep (by decide)) st₂.1 st₂.2.1.vol X₂.hd (X₂.cs _ c2) g1 g3 X₂.t425 hA hO (fun m=>S.Lx.2 (List.mem_singleton.mp m).symm)) (fun v s₃ q=> ?_) fun _ _ x=>x.elim
  rw[FD]at q
  obtain⟨rv,kf,T⟩:=q
  have kf:Fl [425] [L] s₂ s₃:=kf
  have X₃:=X₂.fnd kf T S hLW hLs
  have st₃:(cB.wr ρ).St s₃:=JF hLs st₂ hfl kf.1 (fun b hb=>by
   have hb:b∈([425,L]:List Addr):=hb
   rcases mem2 hb with rfl |rfl
   ·exact .inr rfl
   ·exact .inl S.L9) (fun _ o e=>kf.2 L (List.mem_singleton.mpr rfl) o e) (fun b hb=>by
   have hb:b∈([425,L]:List Addr):=hb
   rcases mem2 hb with rfl |rfl
   ·obtain⟨ps,e,_⟩:=T;exact⟨_,e⟩
   ·obtain⟨m,⟨o,es,ep,e,hd,_⟩,_⟩:=st₂.2.1.ns
    obtain⟨sl,e2⟩:=kf.2 L (List.mem_singleton.mpr rfl) o e
    exact⟨_,e2⟩) X₃
  refine⟨st₃,rv,fun s₄ k₄ st₄=> ?_⟩
  show wpAny (model pw w) (A₁) (execs [] e₁) _ _ s₄
  exact wpAny_execs_nil (wpAny_execs_nil ⟨rfl,st₄,((KpF.of k₂).trans kf.1).trans (.of k₄)⟩)
 ·exact KS (o:=o433 w.params) (fn_due w g H R d n hH hR hn3) (Xc (YB (Xa q3 rfl rfl rfl) fun s st=>st.2.2.cs _ c3) (Xc (YB (Xa q4 rfl rfl rfl) fun s st=>st.2.2.cs _ c4) (Xc (YB (Xa q5 rfl rfl rfl) fun s st=>st.2.2.cs _ c5) (Xc (Xa q6 rfl rfl rfl) Xd rfl) rfl) rfl) rfl) (.inl rfl) (deep (n:=9) hdep (by decide)) rfl rfl rfl (by kernel_rfl) (by kernel_rfl) rfl ⟨_,rfl⟩
theorem fmod_pos(x:Int):0≤x.fmod 2211840:=by
 rw[Int.fmod_eq_emod_of_nonneg _ (by lia)];lia
noncomputable def lawS(i:Nat):Stmt:=((fdB (stN 36))[i]?).getD (.Pass default)
theorem law_body:fdB (stN 36)=[lawS 0,lawS 1,lawS 2,lawS 3,lawS 4,lawS 5,lawS 6,lawS 7,lawS 8,lawS 9,lawS 10,lawS 11,lawS 12,lawS 13,lawS 14,lawS 15,lawS 16]:=by kernel_rfl
noncomputable def fixD:List Nat:=[2632,554544,15905,1107858,3060]
noncomputable def Yn(ns:List Int):List Nat:=((ns.take 5).map fun x=>(x.fmod 2211840).toNat)++fixD
noncomputable def toI:PV→Int
 | .int i=>i
 |_=>0
noncomputable def tup0:PV→PV
 | .tup (a::_)=>a
 |_=>.none
noncomputable def Jz(D:List Nat):PV:=.lst (D.map fun d:Nat=>.int (d:Nat))
theorem draw_pv(ns:List Int):PV.lst ((((sl ns none (some 5)).map PV.int).filter fun _=>true).map fun p=>.int ((toI p).fmod 2211840))= .lst (((ns.take 5).map fun x=>(x.fmod 2211840).toNat).map fun d:Nat=>.int (d:Nat)):=by
 rw[Ju,List.filter_eq_self.mpr (fun _ _=>rfl),List.map_map,List.map_map]
 congr 1
 refine List.map_congr_left fun x _=> ?_
 show PV.int (x.fmod 2211840)= .int (((x.fmod 2211840).toNat:Nat):Int)
 rw[Int.toNat_of_nonneg (fmod_pos x)]
theorem draw_app(ns:List Int):PV.lst ((((ns.take 5).map fun x=>(x.fmod 2211840).toNat).map fun d:Nat=>.int (d:Nat))++fixD.map fun d:Nat=>.int (d:Nat))=Jz (Yn ns):=by
 unfold Jz Yn
 rw[List.map_append]
theorem draw_lt{ns:List Int}{d:Nat}(h:d∈Yn ns):d<2211840:=by
 unfold Yn at h
 rcases List.mem_append.mp h with q |q
 ·obtain⟨x,_,rfl⟩:=List.mem_map.mp q
  have:=Int.fmod_lt_of_pos x (show(0:Int)<2211840 by decide)
  have:=fmod_pos x
  lia
 ·have hall:∀d∈fixD,d<2211840:=by decide
  exact hall d q
theorem draw_len(ns:List Int):(Yn ns).length≤10:=by
 unfold Yn
 rw[List.length_append,List.length_map,List.length_take]
 have:fixD.length=5:=rfl
 lia
theorem names_pv(D:List Nat):PV.lst ((((D.map fun d:Nat=>PV.int (d:Nat))).filter fun _=>true).map fun p=>Xw (toN p))= .lst (D.map Xw):=by
 rw[List.filter_eq_self.mpr (fun _ _=>rfl),List.map_map];rfl
theorem spells_pv(D:List Nat):PV.lst (((D.map Xw).filter fun _=>true).map tup0)= .lst (wdPV D):=by
 rw[List.filter_eq_self.mpr (fun _ _=>rfl),List.map_map];rfl
theorem St.val{c:Cx}{ρ:List (Str×PV)}{s:Shared}{x:Str}{p:PV}(hs:(c.wr ρ).St s)(hx:ρ.lookup x=some p)(hk:c.env.kindOf x=some .local):∃v,Rep c.V s.heap p v∧(c.wr ((x,.val v)::ρ)).St s:=by
 obtain⟨B,H,X⟩:=hs
 obtain⟨m,hn,hm⟩:=H.ns
 obtain⟨v,hv,hr⟩:=hm x p hx hk
 refine⟨v,hr,B,⟨⟨m,hn,fun y pv hy hky=> ?_⟩,fun y pv hy hky=> ?_,H.high,H.there,H.vol,H.apart⟩,X⟩
 ·rcases YO hy with⟨rfl,rfl⟩ | ⟨_,hy⟩
  ·exact⟨v,hv,Xy⟩
  ·exact hm y pv hy hky
 ·rcases YO hy with⟨rfl,rfl⟩ | ⟨_,hy⟩
  ·rcases hky with e |e<;>(have e':c.env.kindOf y=_:=e;rw[hk]at e';cases e')
  ·exact H.cell y pv hy hky
noncomputable def X0(L a₀:Addr)(ns:List Int)(s₁ s:Shared):Prop:=(∃vs:Array Value,s.heap.IsList a₀ vs∧IntsAre vs.toList ns)∧KpF false [L] s₁ s
theorem x0_hX{L a₀:Addr}{ns:List Int}{s₁:Shared}(P:Params)(hne:a₀≠L):∀s s',X0 L a₀ ns s₁ s→KpF false (L::(fdOf (o438 P)).closure.map (fun x:Str×Addr=>x.2)) s s'→X0 L a₀ ns s₁ s':=fun s s' x k=>by
 rw[YH]at k
 obtain⟨⟨vs,⟨o,e,r⟩,hi⟩,t⟩:=x
 exact⟨⟨vs,⟨o,k.get0 (fun m=>hne (List.mem_singleton.mp m)) e,r⟩,hi⟩,t.trans k⟩
theorem law_a{w:World}{g:Nat→Obj}{A:Around}{s₁:Shared}{L a₀:Addr}{ns:List Int}{hX}{hh:A.handled=none}(hdep:A.depth+10<recursionLimit)(hlen:ns.length≤63){rest:List Stmt}{Q:Flow→Shared→Prop}{E:Value→Shared→Prop}{s:Shared}
(st:((Jd w g A L [] (X0 L a₀ ns s₁) hX hh).wr [("script",.val (.ref a₀))]).St s)
(h:∀s',((Jd w g A L [] (X0 L a₀ ns s₁) hX hh).wr [("spellings",.lst (wdPV (Yn ns))),("names",.lst ((Yn ns).map Xw)),("drawn",Jz (Yn ns))]).St s'→wpAny (model pw w) (A.deeper (callEnv (fdOf (o438 w.params)) L 438)) (execs rest (callEnv (fdOf (o438 w.params)) L 438)) Q E s'):
 wpAny (model pw w) (A.deeper (callEnv (fdOf (o438 w.params)) L 438)) (execs (lawS 0::lawS 1::lawS 2::rest) (callEnv (fdOf (o438 w.params)) L 438)) Q E s:=by
 have h0:lawS 0=lawS 0:=rfl
 conv at h0=>rhs;whnf
 have h1:lawS 1=lawS 1:=rfl
 conv at h1=>rhs;whnf
 have h2:lawS 2=lawS 2:=rfl
 conv at h2=>rhs;whnf
 rw[h0,h1,h2]
 have big:∀n:Nat,n≤1000→n≤sizeLine:=fun n h=>Nat.le_trans h (by decide +kernel)
 have hDl:=draw_len ns
 refine Ji st (Jz (Yn ns)) ?_ (.inl rfl) rfl fun s₂ st₂ k₂=> ?_
 ·refine YP ?_ (draw_app ns)
  refine XI (p:=.lst (((ns.take 5).map fun x=>(x.fmod 2211840).toNat).map fun d:Nat=>.int (d:Nat))) (q:=.lst (fixD.map fun d:Nat=>.int (d:Nat))) (YP ?_ (draw_pv ns)) (KR fixD (by kernel_rfl) (by kernel_rfl)) (Jg ?_)
  ·refine Jf (by kernel_rfl) [] [] (fun _=>true) (fun p=>.int ((toI p).fmod 2211840)) (YF (q:=.lst ((sl ns none (some 5)).map .int)) (YZ (q:=.val (.ref a₀)) (Xa rfl rfl rfl rfl) YR (Yy (n:=5) Xe) (slice_isl (fun s st=>st.2.2.1) (big _ (by lia)))) YX) ?_ rfl (by kernel_rfl) (by kernel_rfl) rfl (fun _=>rfl) Wk no_cap ?_
   ·rw[List.length_map,Ju,List.length_take];exact big _ (by lia)
   ·intro C V' hC i p hp
    rw[List.getElem?_map]at hp
    obtain⟨x,hx,rfl⟩:=Option.map_eq_some_iff.mp hp
    exact⟨[("x",.int x)],YW rfl,ZQ,fun _=>XI (p:=.int x) (q:=.int 2211840) (Xa rfl rfl rfl rfl) Xe (bin_mod_int (by decide))⟩
  ·rw[List.length_map,List.length_map,List.length_map,List.length_take]
   have:fixD.length=5:=rfl
   exact big _ (by lia)
 refine Wg st₂ (stm_comp (c:=Jd w g A L [] (X0 L a₀ ns s₁) hX hh) (by kernel_rfl) [] [] (fun _=>true) (fun p=>Xw (toN p)) (by kernel_rfl) (.inl rfl) (by kernel_rfl) (YF (q:=Jz (Yn ns)) (Xa rfl rfl rfl rfl) YX) ?_ rfl (by kernel_rfl) (by kernel_rfl) rfl (fun _=>rfl) Wk (fun x q hx=>by simp at hx) ?_) fun s₃ st₃ k₃=> ?_
 ·rw[List.length_map];exact big _ (by lia)
 ·intro C V' hC i p hp
  rw[List.getElem?_map]at hp
  obtain⟨x,hx,rfl⟩:=Option.map_eq_some_iff.mp hp
  refine⟨[("x",.int (x:Nat))],YW rfl,ZQ,fun _=> ?_⟩
  exact KS (o:=o404 w.params) (fn_name w g x (draw_lt (List.mem_of_getElem? hx))) (Xc (Xa rfl rfl rfl rfl) Xd rfl) (.inl rfl) (deep (n:=9) hdep (by decide)) rfl rfl rfl (by kernel_rfl) (by kernel_rfl) rfl ⟨_,rfl⟩
 have e₃:=names_pv (Yn ns)
 rw[e₃]at st₃
 have go₃:=Xx st₃
 refine go₃ _ _ _ ?_
 refine Wg st₃ (stm_comp (c:=Jd w g A L [] (X0 L a₀ ns s₁) hX hh) (by kernel_rfl) [] [] (fun _=>true) tup0 (by kernel_rfl) (.inl rfl) (by kernel_rfl) (YF (q:=.lst ((Yn ns).map Xw)) (Xa rfl rfl rfl rfl) YX) ?_ rfl (by kernel_rfl) (by kernel_rfl) rfl (fun _=>rfl) Wk (fun x q hx=>by simp at hx) ?_) fun s₄ st₄ k₄=> ?_
 ·rw[List.length_map];exact big _ (by lia)
 ·intro C V' hC i p hp
  rw[List.getElem?_map]at hp
  obtain⟨x,hx,rfl⟩:=Option.map_eq_some_iff.mp hp
  refine⟨[("name",Xw x)],YW rfl,ZQ,fun _=> ?_⟩
  exact XY (p:=Xw x) (q:=.int 0) (Xa rfl rfl rfl rfl) Xe (XX (by decide) (by decide) rfl) rfl
 have e₄:=spells_pv (Yn ns)
 rw[e₄]at st₄
 exact h s₄ (st₄.sub (Yf fun p hp=>by
  rcases mem3 hp with rfl |rfl |rfl<;>rfl))
theorem ZN{l:List Addr}{L:Addr}{s s':Shared}(h:∀b∈l,∃o,s.heap.get? b=some o)(k:KpF false [L] s s')(hL:∃o,s'.heap.get? L=some o):∀b∈l,∃o,s'.heap.get? b=some o:=fun b hb=>by
 obtain⟨o,e⟩:=h b hb
 by_cases q:b=L
 ·rw[q];exact hL
 ·exact⟨o,k.get0 (fun m=>q (List.mem_singleton.mp m)) e⟩
theorem Yo{l:List Addr}{x:Addr}{s:Shared}(h:∀b∈l,∃o,s.heap.get? b=some o)(hx:s.heap.get? x=none):x∉l:=fun m=>by
 obtain⟨o,e⟩:=h x m
 rw[hx]at e;cases e
theorem Zg{F:List Addr}{s s':Shared}{b:Addr}(k:KpF false F s s')(hb:b∉F)(h:s'.heap.get? b=none):s.heap.get? b=none:=by
 cases e:s.heap.get? b with
 |none=>rfl
 |some o=>rw[k.get0 hb e]at h;cases h
noncomputable abbrev W1(L rd hl rw rf:Addr)(a:LexA):List Addr:=L::rd::hl::rw ::rf::a.vol
noncomputable abbrev Cs1(D:List Nat)(nv sv:Value):List (PV×Value):=[(.lst (D.map Xw),nv),(.lst (wdPV D),sv)]
theorem true_hX{L:Addr}(P:Params):∀s s':Shared,(fun _=>True) s→KpF false (L::(fdOf (o438 P)).closure.map (fun x:Str×Addr=>x.2)) s s'→(fun _:Shared=>True) s':=fun _ _ _ _=>trivial
theorem law_b{w:World}{g:Nat→Obj}{A:Around}{s₁:Shared}{L a₀:Addr}{ns:List Int}{hX}{hh:A.handled=none}(hdep:A.depth+10<recursionLimit){D:List Nat}(hDl:D.length≤10)(hD:∀d∈D,d<2211840∧0<(spell d).length)(T394:s₁.heap.get? 394=some (tabObj #[]))(T425:s₁.heap.get? 425=some (tabObj #[]))(T435:s₁.heap.get? 435=some (tabObj #[]))(hL9:439≤L)(hL1:s₁.heap.get? L=none)
{rest:List Stmt}{Q:Flow→Shared→Prop}{E:Value→Shared→Prop}{s:Shared}
(st:((Jd w g A L [] (X0 L a₀ ns s₁) hX hh).wr [("spellings",.lst (wdPV D)),("names",.lst (D.map Xw)),("drawn",Jz D)]).St s)
(h:∀a sx dx hl rd rw rf nv sv s' (S:SA L a sx dx (AsA rd hl rw rf)) (hLW:L∈W1 L rd hl rw rf a),(AsA rd hl rw rf).Nodup→(∀b∈W1 L rd hl rw rf a,s₁.heap.get? b=none)→
   ((cA w g A s₁ L a (XL D) sx dx hl (AsA rd hl rw rf) (Cs1 D nv sv) (W1 L rd hl rw rf a) 0 (LsA rd hl rw rf (wdPV (D.take 0)) (Hk D 0) (Rk D 0) (Fk D 0)) S hLW Ya hh).wr (ρ1 nv sv a rd rw rf sx)).St s'→wpAny (model pw w) (A.deeper (callEnv (fdOf (o438 w.params)) L 438)) (execs rest (callEnv (fdOf (o438 w.params)) L 438)) Q E s'):
 wpAny (model pw w) (A.deeper (callEnv (fdOf (o438 w.params)) L 438)) (execs (lawS 3::lawS 4::lawS 5::lawS 6::lawS 7::rest) (callEnv (fdOf (o438 w.params)) L 438)) Q E s:=by
 have h3:lawS 3=lawS 3:=rfl
 conv at h3=>rhs;whnf
 have h4:lawS 4=lawS 4:=rfl
 conv at h4=>rhs;whnf
 have h5:lawS 5=lawS 5:=rfl
 conv at h5=>rhs;whnf
 have h6:lawS 6=lawS 6:=rfl
 conv at h6=>rhs;whnf
 have h7:lawS 7=lawS 7:=rfl
 conv at h7=>rhs;whnf
 rw[h3,h4,h5,h6,h7]
 let e₁:Env:=callEnv (fdOf (o438 w.params)) L 438
 let A₁:Around:=A.deeper e₁
 let c₀:Cx:=Jd w g A L [] (X0 L a₀ ns s₁) hX hh
 let c₁:Cx:=Jd w g A L [] (fun _=>True) (true_hX w.params) hh
 let ρ₀:List (Str×PV):=[("spellings",.lst (wdPV D)),("names",.lst (D.map Xw)),("drawn",Jz D)]
 have st:(c₀.wr ρ₀).St s:=st
 have go:=Xx st
 refine go _ _ _ ?_
 have e1:Jz D= .lst ((Zof D).map fun z=>.int (z.1:Nat)):=by
  unfold Jz Zof
  rw[List.map_map];rfl
 have e2:PV.lst (wdPV D)= .lst ((Zof D).map fun z=>.str z.2):=by
  unfold wdPV Zof
  rw[List.map_map];rfl
 have hZl:(Zof D).length≤100:=by unfold Zof;rw[List.length_map];lia
 have hZ:∀z∈Zof D,z.1<2 ^ 50∧0<z.2.length∧z.2.length≤100:=fun z hz=>by
  obtain⟨d,hd,rfl⟩:=List.mem_map.mp hz
  have q1:=hD d hd
  have q2:=Kh d
  exact⟨Nat.lt_trans q1.1 (by decide),q1.2,Nat.le_trans q2 (by decide)⟩
 refine Zy st (.inl rfl) rfl (KJ (fv:=.ref 399) (K:=[(399,o399 w.params)]) st (XA rfl (by kernel_rfl) rfl) (fun s' st'=>XD st'.1 fun p hp=>by rw[List.mem_singleton]at hp;subst hp;exact⟨rfl,by kernel_rfl⟩) (by kernel_rfl) (ps:=[.str (XL D)]) (Xc (KS (o:=o411 w.params) (fn_page w g (Zof D) hZl hZ) (Xc (YP (Xa rfl rfl rfl rfl) e1) (Xc (YP (Xa rfl rfl rfl rfl) e2) Xd rfl) rfl) (.inl rfl) (deep (n:=9) hdep (by decide)) rfl rfl rfl (by kernel_rfl) (by kernel_rfl) rfl ⟨_,rfl⟩) Xd rfl) rfl fun vs s₂ r₂ k₂ st₂=> ?_)
 obtain⟨u1,g1⟩:=Uv r₂
 rw[Rep]at g1
 obtain⟨tx,rfl⟩:=g1
 obtain⟨nv,hnv,st₂'⟩:=St.val st₂ (x:="names") (p:=.lst (D.map Xw)) rfl rfl
 obtain⟨sv,hsv,st₂''⟩:=St.val st₂' (x:="spellings") (p:=.lst (wdPV D)) rfl rfl
 let ρ₂:List (Str×PV):=[("spellings",.val sv),("names",.val nv)]
 have sf₂:(c₀.wr ρ₂).St s₂:=st₂''.sub (Yf fun p hp=>by
  rcases mem2 hp with rfl |rfl<;>rfl)
 have t12:KpF false [L] s₁ s₂:=st₂.2.2.2
 have nL4:∀{b:Nat},b<439→b∉[L]:=fun hb m=>absurd hL9 (by rw[←List.mem_singleton.mp m];exact Nat.not_le.mpr hb)
 refine wpAny_mono (lexer_ok (A:=A₁) hh (show A.depth+1+4<recursionLimit from dep2 hdep (by decide)) st₂.1 (t12.get0 (nL4 (by decide)) T394)) (fun v s₃ q=> ?_) fun _ _ x=>x.elim
 obtain⟨a,rfl,La,T3,fra,k₃⟩:=q
 have n394:∀{b:Addr},439≤b→b∉([394]:List Addr):=fun hb m=>by rw[List.mem_singleton.mp m]at hb;exact absurd hb (by decide)
 have L2:∃o,s₂.heap.get? L=some o:=let⟨m,⟨o,_,_,ho,_⟩,_⟩:=st₂.2.1.ns;⟨o,ho⟩
 have L3:∃o,s₃.heap.get? L=some o:=let⟨o,e⟩:=L2;⟨o,k₃.get0 (n394 hL9) e⟩
 have hLa:L∉a.all:=fun m=>by obtain⟨o,e⟩:=L2;rw[fra L m]at e;cases e
 have st₃:(c₁.wr ρ₂).St s₃:=St.goL sf₂ rfl k₃ (fun b hb=>.inr (by rw[List.mem_singleton.mp hb];rfl)) (fun m=>absurd m (n394 hL9)) (fun b hb=>by cases hb) trivial
 have frL:∀{s s':Shared},KpF false (e₁.locals::e₁.cells.map (·.2)) s s'→KpF false [L] s s':=fun k=>Yt (YH w.params) (.head _) k
 have to₃:=XS (x:="lexer") (p:=.val (.ref a.lx)) (v:=.ref a.lx) st₃ Xy (.inl rfl)
 refine to₃ _ _ _ fun s₄ st₄ k₄=> ?_
 let ρ₄:List (Str×PV):=("lexer",.val (.ref a.lx))::ρ₂
 have st₄:(c₁.wr ρ₄).St s₄:=st₄
 have go₄:=Xx st₄
 refine go₄ _ _ _ ?_
 have Lv:∀{ρ:List (Str×PV)} {s:Shared},(c₁.wr ρ).St s→∃o,s.heap.get? L=some o:=fun st=>let⟨m,⟨o,_,_,ho,_⟩,_⟩:=st.2.1.ns;⟨o,ho⟩
 have v₄:∀b∈L::a.all,∃o,s₄.heap.get? b=some o:=ZN (s:=s₃) (fun b hb=>by
  rcases Xz.mp hb with rfl |hb
  ·exact L3
  ·exact La.live hb) (frL k₄) (Lv st₄)
 -- read
 refine Ja (ps:=[]) st₄ (YS Xd (by decide)) (.inl rfl) rfl (nocells (by kernel_rfl)) fun rd vs s₅ s₆ rd9 rdn rdg rdr k₅ st₆ k₆=> ?_
 let ρ₆:List (Str×PV):=("read",.val (.ref rd))::ρ₄
 have st₆:(c₁.wr ρ₆).St s₆:=st₆
 have go₆:=Xx st₆
 refine go₆ _ _ _ ?_
 obtain rfl:=Yh rdr
 have m₆:KpF false [L] s₄ s₆:=(KpF.of k₅).trans (frL k₆)
 have v₆:∀b∈rd::L::a.all,∃o,s₆.heap.get? b=some o:=fun b hb=>by
  rcases Xz.mp hb with rfl |hb
  ·exact⟨_,rdg⟩
  ·exact ZN v₄ m₆ (Lv st₆) b hb
 have x₄:=Yo v₄ rdn
 -- table
 refine Zy st₆ (.inl rfl) rfl (wp_callF0 (fv:=.ref 388) (K:=KHd w.params) st₆ (XA rfl (by kernel_rfl) rfl) (fun s' st'=>YU st'.1) (by kernel_rfl) fun s₇ k₇ st₇=> ?_)
 refine wpAny_mono (make_headers (A:=A₁) hh (show A.depth+1+2<recursionLimit from dep2 hdep (by decide)) st₇.1) (fun v s₈ q=> ?_) fun _ _ x=>x.elim
 obtain⟨sx,dx,hl,rfl,Hd,hlg,hl9,sxn,dxn,hln,k₈⟩:=q
 have st₈:=st₇.kp k₈
 have to₈:=XS (x:="table") (p:=.val (.ref sx)) (v:=.ref sx) st₈ Xy (.inl rfl)
 refine to₈ _ _ _ fun s₉ st₉ k₉=> ?_
 let ρ₉:List (Str×PV):=("table",.val (.ref sx))::ρ₆
 have st₉:(c₁.wr ρ₉).St s₉:=st₉
 have go₉:=Xx st₉
 refine go₉ _ _ _ ?_
 have m₇:KpF false [L] s₆ s₇:=.of k₇
 have v₇:=ZN v₆ m₇ (Lv st₇)
 have m₈:KpF false [L] s₇ s₈:=.of k₈
 have m₉:KpF false [L] s₈ s₉:=frL k₉
 have x₇s:=Yo v₇ sxn
 have x₇d:=Yo v₇ dxn
 have x₇h:=Yo v₇ hln
 have v₈:∀b∈hl::sx::dx::rd::L::a.all,∃o,s₈.heap.get? b=some o:=fun b hb=>by
  rcases Xz.mp hb with rfl |hb
  ·exact⟨_,hlg⟩
  rcases Xz.mp hb with rfl |hb
  ·obtain⟨sl,e⟩:=Hd.obj;exact⟨_,e⟩
  rcases Xz.mp hb with rfl |hb
  ·obtain⟨_,_,_,e⟩:=Hd.dict;exact⟨_,e⟩
  ·exact ZN v₇ m₈ (Lv st₈) b hb
 have v₉:=ZN v₈ m₉ (Lv st₉)
 -- row
 refine Ja (ps:=[]) st₉ (YS Xd (by decide)) (.inl rfl) rfl (nocells (by kernel_rfl)) fun rw vs s₁₀ s₁₁ rw9 rwn rwg rwr k₁₀ st₁₁ k₁₁=> ?_
 let ρ₁₁:List (Str×PV):=("row",.val (.ref rw))::ρ₉
 have st₁₁:(c₁.wr ρ₁₁).St s₁₁:=st₁₁
 have go₁₁:=Xx st₁₁
 refine go₁₁ _ _ _ ?_
 obtain rfl:=Yh rwr
 have m₁₁:KpF false [L] s₉ s₁₁:=(KpF.of k₁₀).trans (frL k₁₁)
 have x₉:=Yo v₉ rwn
 have v₁₁:∀b∈rw ::hl::sx::dx::rd::L::a.all,∃o,s₁₁.heap.get? b=some o:=fun b hb=>by
  rcases Xz.mp hb with rfl |hb
  ·exact⟨_,rwg⟩
  ·exact ZN v₉ m₁₁ (Lv st₁₁) b hb
 -- refused
 refine Ja (ps:=[]) st₁₁ (YS Xd (by decide)) (.inl rfl) rfl (nocells (by kernel_rfl)) fun rf vs s₁₂ s₁₃ rf9 rfn rfg rfr k₁₂ st₁₃ k₁₃=> ?_
 let ρ₁₃:List (Str×PV):=("refused",.val (.ref rf))::ρ₁₁
 have st₁₃:(c₁.wr ρ₁₃).St s₁₃:=st₁₃
 have go₁₃:=Xx st₁₃
 refine go₁₃ _ _ _ ?_
 obtain rfl:=Yh rfr
 have m₁₃:KpF false [L] s₁₁ s₁₃:=(KpF.of k₁₂).trans (frL k₁₃)
 have x₁₁:=Yo v₁₁ rfn
 -- all that changed
 have c24:KpF false [394,L] s₂ s₄:=(k₃.sub fun b hb=>by rw[List.mem_singleton.mp hb];exact .head _).trans ((frL k₄).sub fun b hb=>by rw[List.mem_singleton.mp hb];exact .tail _ (.head _))
 have lift:∀{s s':Shared},KpF false [L] s s'→KpF false [394,L] s s':=fun k=>k.sub fun b hb=>by rw[List.mem_singleton.mp hb];exact .tail _ (.head _)
 have c26:=c24.trans (lift m₆)
 have c27:=c26.trans (lift m₇)
 have c29:=(c27.trans (lift m₈)).trans (lift m₉)
 have c2b:=c29.trans (lift m₁₁)
 have c2d:=c2b.trans (lift m₁₃)
 have e₄:KpF false [L] s₃ s₄:=frL k₄
 have c3:KpF false [L] s₃ s₁₃:=(((((e₄.trans m₆).trans m₇).trans m₈).trans m₉).trans m₁₁).trans m₁₃
 have c6:KpF false [L] s₆ s₁₃:=(((m₇.trans m₈).trans m₉).trans m₁₁).trans m₁₃
 have c8:KpF false [L] s₈ s₁₃:=(m₉.trans m₁₁).trans m₁₃
 have nb:∀{b:Addr} {F:List Addr},439≤b→b≠L→b∉([394,L]:List Addr):=fun{b} F hb hn m=>by
  rcases mem2 m with rfl |m
  ·exact absurd hb (by decide)
  ·exact hn m.symm
 have t1:∀{s:Shared},KpF false [394,L] s₂ s→KpF false [394,L] s₁ s:=fun k=>(lift t12).trans k
 simp only[List.mem_cons,not_or]at x₄ x₇s x₇d x₇h x₉ x₁₁
 -- the places' distinctness
 have S:SA L a sx dx (AsA rd hl rw rf):=by
  refine⟨hL9,fun x hx=> ?_,hLa,⟨fun e=>x₇s.2.1 e.symm,fun e=>x₇d.2.1 e.symm⟩,fun x hx=> ?_,fun x hx=> ?_,fun x hx=> ?_,fun b hb=>⟨fun e=>x₇s.2.2 (e▸hb),fun e=>x₇d.2.2 (e▸hb)⟩⟩<;>simp only[List.mem_cons,List.not_mem_nil,or_false]at hx<;>rcases hx with rfl |rfl |rfl |rfl
  ·exact rd9
  ·exact hl9
  ·exact rw9
  ·exact rf9
  ·exact x₄.1
  ·exact x₇h.2.1
  ·exact x₉.2.2.2.2.1
  ·exact x₁₁.2.2.2.2.2.1
  ·exact x₄.2
  ·exact x₇h.2.2
  ·exact x₉.2.2.2.2.2
  ·exact x₁₁.2.2.2.2.2.2
  ·exact⟨fun e=>x₇s.1 e.symm,fun e=>x₇d.1 e.symm⟩
  ·have hne:x≠sx:=fun e=>by
    obtain⟨sl,e1⟩:=Hd.obj
    rw[←e,hlg]at e1;cases e1
   have hne2:x≠dx:=fun e=>by
    obtain⟨_,_,_,e1⟩:=Hd.dict
    rw[←e,hlg]at e1
    have e2:=congrArg Obj.data (Option.some.inj e1)
    cases e2
   exact⟨hne,hne2⟩
  ·exact⟨x₉.2.1,x₉.2.2.1⟩
  ·exact⟨x₁₁.2.2.1,x₁₁.2.2.2.1⟩
 have hnd:(AsA rd hl rw rf).Nodup:=by
  simp only[List.nodup_cons,List.mem_cons,List.not_mem_nil,or_false,not_or,List.nodup_nil,and_true,not_false_eq_true]
  exact⟨⟨fun e=>x₇h.1 e.symm,fun e=>x₉.2.2.2.1 e.symm,fun e=>x₁₁.2.2.2.2.1 e.symm⟩,⟨fun e=>x₉.1 e.symm,fun e=>x₁₁.2.1 e.symm⟩,fun e=>x₁₁.1 e.symm⟩
 have hLW:L∈W1 L rd hl rw rf a:=.head _
 have n2:∀b∈W1 L rd hl rw rf a,b≠L→s₂.heap.get? b=none:=fun b hb hn=>by
  simp only[List.mem_cons]at hb
  rcases hb with q |q |q |q |q |q
  ·exact absurd q hn
  ·rw[q]at hn ⊢;exact Zg c24 (nb (F:=[]) rd9 hn) rdn
  ·rw[q]at hn ⊢;exact Zg c27 (nb (F:=[]) hl9 hn) hln
  ·rw[q]at hn ⊢;exact Zg c29 (nb (F:=[]) rw9 hn) rwn
  ·rw[q]at hn ⊢;exact Zg c2b (nb (F:=[]) rf9 hn) rfn
  ·exact fra b (XJ q)
 have hfresh:∀b∈W1 L rd hl rw rf a,s₁.heap.get? b=none:=fun b hb=>by
  by_cases q:b=L
  ·rw[q];exact hL1
  ·exact Zg t12 (fun m=>q (List.mem_singleton.mp m)) (n2 b hb q)
 have hW9:∀b∈W1 L rd hl rw rf a,439≤b:=fun b hb=>by
  simp only[Xz]at hb
  rcases hb with rfl |rfl |rfl |rfl |rfl |q
  ·exact hL9
  ·exact rd9
  ·exact hl9
  ·exact rw9
  ·exact rf9
  ·exact La.big b (XJ q)
 have hsub:∀b d x n,tb [] b=false→s₂.heap.get? b=some ⟨d,Option.none,.seq x n,#[]⟩→tb (W1 L rd hl rw rf a) b=false:=fun b d x n hb e=>Yx (Xu hb) fun m=>by
  by_cases q:b=L
  ·obtain⟨m',⟨o,es,ep,ho,hd,_⟩,_⟩:=st₂.2.1.ns
   have ho':s₂.heap.get? L=some o:=ho
   rw[q,ho']at e
   cases e
   cases hd
  ·rw[n2 b m q]at e;cases e
 have hF2:∀b∈([394,L]:List Addr),b∈W1 L rd hl rw rf a∨Xp b=true:=fun b hb=>by
  rcases mem2 hb with rfl |rfl
  ·exact .inr rfl
  ·exact .inl hLW
 have nLs:∀{x:Addr},x≠L→x∉[L]:=fun h m=>h (List.mem_singleton.mp m)
 have ll:∀{x:Addr} {n:Nat},s₁₃.heap.get? x=some {cls:=.type "list",data:=.seq (List.toArray []) n}→Ka (W1 L rd hl rw rf a) s₁₃.heap x []:=fun e=>⟨[],_,e,XW⟩
 have X:LF s₁ w.params a (XL D) sx dx hl (Cs1 D nv sv) (W1 L rd hl rw rf a) 0 (LsA rd hl rw rf (wdPV (D.take 0)) (Hk D 0) (Rk D 0) (Fk D 0)) s₁₃:=by
  refine⟨La.kpf (fun b hb m=>hLa (by rw[←List.mem_singleton.mp m];exact hb)) c3,Hd.at fun b o h9 hb e=>c8.get0 (fun m=> ?_) e,fun x hx=> ?_,fun x hx=> ?_,.nil (c2d.get0 (by simp;exact fun e=>absurd hL9 (by rw[←e];decide)) (t12.get0 (nL4 (by decide)) T435)),.nil (c2d.get0 (by simp;exact fun e=>absurd hL9 (by rw[←e];decide)) (t12.get0 (nL4 (by decide)) T425)),?_,(t1 c2d).sub fun b hb=> ?_⟩
  ·rw[List.mem_singleton]at m
   rcases hb with q |q
   ·exact x₇s.2.1 (q▸m)
   ·exact x₇d.2.1 (q▸m)
  ·rcases mem4 hx with rfl |rfl |rfl |rfl
   ·exact ll (c6.get0 (nLs x₄.1) rdg)
   ·exact ll (c8.get0 (nLs x₇h.2.1) hlg)
   ·exact ll (m₁₃.get0 (nLs x₉.2.2.2.2.1) rwg)
   ·exact ll rfg
  ·rcases mem2 hx with rfl |rfl
   ·exact Zm c2d hF2 (hnv.sub hsub)
   ·exact Zm c2d hF2 (hsv.sub hsub)
  ·obtain⟨ps,e⟩:=T3
   exact⟨ps,c3.get0 (nL4 (by decide)) e⟩
  ·rcases mem2 hb with rfl |rfl
   ·exact .head _
   ·exact .tail _ (.tail _ (.tail _ hLW))
 have v₁₃:∀b∈rf::rw ::hl::sx::dx::rd::L::a.all,∃o,s₁₃.heap.get? b=some o:=fun b hb=>by
  rcases Xz.mp hb with rfl |hb
  ·exact⟨_,rfg⟩
  ·exact ZN v₁₁ m₁₃ (Lv st₁₃) b hb
 have hVL:Yd (W1 L rd hl rw rf a) s₁₃.heap:=fun b hb=>⟨hW9 b hb,v₁₃ b (by
  simp only[List.mem_cons]at hb ⊢
  rcases hb with q |q |q |q |q |q
  ·simp[q]
  ·simp[q]
  ·simp[q]
  ·simp[q]
  ·simp[q]
  ·simp[XJ q])⟩
 have stF:=St.goL (V':=W1 L rd hl rw rf a) (X':=LF s₁ w.params a (XL D) sx dx hl (Cs1 D nv sv) (W1 L rd hl rw rf a) 0 (LsA rd hl rw rf (wdPV (D.take 0)) (Hk D 0) (Rk D 0) (Fk D 0))) (hX':=Wt w.params S hLW Ya) (F:=[]) st₁₃ (by rfl) (.refl _) (fun b hb=>by cases hb) (fun m=>by cases m) hVL X
 exact h a sx dx hl rd rw rf nv sv s₁₃ S hLW hnd hfresh stF
section
variable{w:World}{g:Nat→Obj}{A:Around}{s₁:Shared}{L:Addr}{a:LexA}{page:Str}{sx dx hl:Addr}{As:List Addr}{Cs:List (PV×Value)}{W:List Addr}{i:Nat}{Ls:List (Addr×List PV)}{S:SA L a sx dx As}{hLW:L∈W}{hLs:∀x∈Ls,x.1∈As}{hh:A.handled=none}{ρ:List (Str×PV)}{s s' s₂:Shared}{I:Addr}
structure IA(s₁:Shared)(L:Addr)(a:LexA)(sx dx:Addr)(Ls:List (Addr×List PV))(W:List Addr)(I:Addr):Prop where
 all:I∉a.all
 hd:I≠sx∧I≠dx
 ls:∀x∈Ls,x.1≠I
 L:I≠L
 W:I∉W
 I9:439≤I
 old:s₁.heap.get? I=none
theorem Ko(st:((cA w g A s₁ L a page sx dx hl As Cs W i Ls S hLW hLs hh).wr ρ).St s)(hI:s.heap.get? I=none)(I9:439≤I):IA s₁ L a sx dx Ls W I:=by
 have X:LF s₁ w.params a page sx dx hl Cs W i Ls s:=st.2.2
 have hW:I∉W:=fun m=>by obtain⟨_,o,e⟩:=st.2.1.vol I m;rw[hI]at e;cases e
 refine⟨fun m=> ?_,⟨fun q=> ?_,fun q=> ?_⟩,fun x hx q=> ?_,fun q=>hW (q▸hLW),hW,I9,Zg X.tr (fun m=> ?_) hI⟩
 ·obtain⟨o,e⟩:=X.lex.live m;rw[hI]at e;cases e
 ·obtain⟨sl,e⟩:=X.hd.obj;rw[←q,hI]at e;cases e
 ·obtain⟨_,_,_,e⟩:=X.hd.dict;rw[←q,hI]at e;cases e
 ·obtain⟨vs,n,e,_⟩:=X.ls x hx;rw[q,hI]at e;cases e
 ·simp only[List.mem_cons]at m
  rcases m with q |q |q |q
  ·rw[q]at I9;exact absurd I9 (by decide)
  ·rw[q]at I9;exact absurd I9 (by decide)
  ·rw[q]at I9;exact absurd I9 (by decide)
  ·exact hW q
theorem KO(st:((cA w g A s₁ L a page sx dx hl As Cs W i Ls S hLW hLs hh).wr ρ).St s)(hfl:(ρ.all fun x=>flat x.2)=true)(k:Kp false s s')(hI:s.heap.get? I=none)(I9:439≤I)(hl_:∃o,s'.heap.get? I=some o):((cA w g A s₁ L a page sx dx hl As Cs (I::W) i Ls S (List.mem_cons_of_mem I hLW) hLs hh).wr ρ).St s':=by
 have X:LF s₁ w.params a page sx dx hl Cs W i Ls s:=st.2.2
 have X':LF s₁ w.params a page sx dx hl Cs (I::W) i Ls s:=X.re (fun b d x n hb e=>Yx (Xu hb) fun m=>by
  rcases List.mem_cons.mp m with q |q
  ·rw[q,hI]at e;cases e
  ·exact XM hb q) (fun b hb=>by
  rcases List.mem_cons.mp hb with q |q
  ·rw[q];exact .inr (.inl hI)
  ·exact .inl q) (fun b hb=>.inl (List.mem_cons_of_mem _ hb)) (fun x hx=>.inl hx) (fun x hx=>.inl hx)
 refine St.goL st hfl (.of k:KpF false [] s s') (fun b hb=>by cases hb) (fun m=>by cases m) (fun b hb=> ?_) (X'.kp k)
 rcases List.mem_cons.mp hb with q |q
 ·rw[q];exact⟨I9,hl_⟩
 ·exact st.2.1.vol.kp k b q
theorem Wm(T:IA s₁ L a sx dx Ls W I){hLW':L∈I::W}(st:((cA w g A s₁ L a page sx dx hl As Cs (I::W) i Ls S hLW' hLs hh).wr ρ).St s)(hfl:(ρ.all fun x=>flat x.2)=true)(k:KpF false [I] s s')(hl_:∃o,s'.heap.get? I=some o):((cA w g A s₁ L a page sx dx hl As Cs (I::W) i Ls S hLW' hLs hh).wr ρ).St s':=by
 have X:LF s₁ w.params a page sx dx hl Cs (I::W) i Ls s:=st.2.2
 have X':=X.mv (Ls':=Ls) k (fun b hb=>by rw[List.mem_singleton.mp hb];exact .head _) (fun b hb=>by rw[List.mem_singleton.mp hb];exact T.I9) (fun b hb=>by rw[List.mem_singleton.mp hb];exact⟨T.all,T.hd⟩) fun x hx=>.inr ⟨hx,fun m=>T.ls x hx (List.mem_singleton.mp m)⟩
 exact JF hLs st hfl k (fun b hb=>.inl (by rw[List.mem_singleton.mp hb];exact T.I9)) (fun m=>absurd (List.mem_singleton.mp m).symm T.L) (fun b hb=>by rw[List.mem_singleton.mp hb];exact hl_) X'
theorem Vv(T:IA s₁ L a sx dx Ls W I){hLW':L∈I::W}(st:((cA w g A s₁ L a page sx dx hl As Cs (I::W) i Ls S hLW' hLs hh).wr ρ).St s)(hfl:(ρ.all fun x=>flat x.2)=true)(k:KpF false [I] s s'):((cA w g A s₁ L a page sx dx hl As Cs W i Ls S hLW hLs hh).wr ρ).St s':=by
 have X:LF s₁ w.params a page sx dx hl Cs (I::W) i Ls s:=st.2.2
 have X':=X.mv (Ls':=Ls) k (fun b hb=>by rw[List.mem_singleton.mp hb];exact .head _) (fun b hb=>by rw[List.mem_singleton.mp hb];exact T.I9) (fun b hb=>by rw[List.mem_singleton.mp hb];exact⟨T.all,T.hd⟩) fun x hx=>.inr ⟨hx,fun m=>T.ls x hx (List.mem_singleton.mp m)⟩
 have X'':LF s₁ w.params a page sx dx hl Cs W i Ls s':=X'.re (fun b d x n hb e=>Yx (Xu hb) fun m=>XM hb (.tail _ m)) (fun b hb=>.inl (.tail _ hb)) (fun b hb=>by
  rcases List.mem_cons.mp hb with q |q
  ·rw[q];exact .inr T.old
  ·exact .inl q) (fun x hx=>.inl hx) (fun x hx=>.inl hx)
 refine St.goL st hfl k (fun b hb=>.inl (by rw[List.mem_singleton.mp hb];exact T.I9)) (fun m=>absurd (List.mem_singleton.mp m).symm T.L) (fun b hb=> ?_) X''
 obtain⟨h9,o,e⟩:=st.2.1.vol b (.tail _ hb)
 exact⟨h9,o,k.get0 (fun m=>T.W ((List.mem_singleton.mp m)▸hb)) e⟩
end
theorem IA.sub{s₁:Shared}{L:Addr}{a:LexA}{sx dx:Addr}{Ls Ls':List (Addr×List PV)}{W:List Addr}{I:Addr}(T:IA s₁ L a sx dx Ls W I)(h:∀x∈Ls',∃y∈Ls,y.1=x.1):IA s₁ L a sx dx Ls' W I:=⟨T.all,T.hd,fun x hx=>let⟨y,hy,e⟩:=h x hx;e▸T.ls y hy,T.L,T.W,T.I9,T.old⟩
structure Plain(D:List Nat):Prop where
 nm:∀d∈D,NmOk d
 sp:∀d∈D,spell d≠⟨#[]⟩
 vl:∀d∈D,(spell d).cps.toList.any vlP=false
 tok:∀k d r,D[k]? =some d→Rst D k r→∃r',TTo r (spell d) r'∧Rst D (k+1) r'
 fin:∀r,Rst D D.length r→TTo r ⟨#[]⟩ []
theorem rst_zero(D:List Nat):Rst D 0 ((XL D).cps.toList.drop 0):=by
 refine⟨[],⟨fun c h=> ?_,?_⟩⟩
 ·cases h
 ·rfl
theorem page_short{D:List Nat}(hD:D.length≤10):(XL D).length≤50000:=by
 have h:=page_len (Zof D) fun z hz=>by
  obtain⟨d,hd,rfl⟩:=List.mem_map.mp hz
  exact Nat.le_trans (Kh d) (by decide)
 have e:(Zof D).length=D.length:=by unfold Zof;rw[List.length_map]
 rw[e]at h
 unfold XL
 lia
theorem Vt{rd hl rw rf:Addr}{w w':List PV}{H R H' R':List (Str×Str)}{F F':List (Nat×Int)}:∀x∈LsA rd hl rw rf w H R F,∃y∈LsA rd hl rw rf w' H' R' F',y.1=x.1:=fun x hx=>by
 rcases mem4 hx with rfl |rfl |rfl |rfl
 ·exact⟨(rd,w'),.head _,rfl⟩
 ·exact⟨(hl,Xf H'),.tail _ (.head _),rfl⟩
 ·exact⟨(rw,Xf R'),.tail _ (.tail _ (.head _)),rfl⟩
 ·exact⟨(rf,YE F'),.tail _ (.tail _ (.tail _ (.head _))),rfl⟩
theorem law_c{w:World}{g:Nat→Obj}(hg:Facts w g){A:Around}{s₁:Shared}{L:Addr}{a:LexA}{sx dx hl rd rw rf:Addr}{nv sv:Value}{D:List Nat}(hDl:D.length≤10)(PL:Plain D){S:SA L a sx dx (AsA rd hl rw rf)}{hLW:L∈W1 L rd hl rw rf a}{hh:A.handled=none}(hdep:A.depth+10<recursionLimit)(hfr:A.frames=some [])(hnd:(AsA rd hl rw rf).Nodup)
{rest:List Stmt}{Q:Flow→Shared→Prop}{E:Value→Shared→Prop}{s:Shared}
(st:((cA w g A s₁ L a (XL D) sx dx hl (AsA rd hl rw rf) (Cs1 D nv sv) (W1 L rd hl rw rf a) 0 (LsA rd hl rw rf (wdPV (D.take 0)) (Hk D 0) (Rk D 0) (Fk D 0)) S hLW Ya hh).wr (ρ1 nv sv a rd rw rf sx)).St s)
(h:∀i s',i≤(XL D).length+1→Rst D D.length ((XL D).cps.toList.drop i)→((cA w g A s₁ L a (XL D) sx dx hl (AsA rd hl rw rf) (Cs1 D nv sv) (W1 L rd hl rw rf a) i (LsA rd hl rw rf (wdPV (D.take D.length)) (Hk D D.length) (Rk D D.length) (Fk D D.length)) S hLW Ya hh).wr (ρ1 nv sv a rd rw rf sx)).St s'→
   wpAny (model pw w) (A.deeper (callEnv (fdOf (o438 w.params)) L 438)) (execs rest (callEnv (fdOf (o438 w.params)) L 438)) Q E s'):
 wpAny (model pw w) (A.deeper (callEnv (fdOf (o438 w.params)) L 438)) (execs (lawS 8::rest) (callEnv (fdOf (o438 w.params)) L 438)) Q E s:=by
 have h8:lawS 8=lawS 8:=rfl
 conv at h8=>rhs;whnf
 rw[h8]
 let ρ₀:List (Str×PV):=ρ1 nv sv a rd rw rf sx
 let c₀ (i k:Nat):Cx:=cA w g A s₁ L a (XL D) sx dx hl (AsA rd hl rw rf) (Cs1 D nv sv) (W1 L rd hl rw rf a) i (LsA rd hl rw rf (wdPV (D.take k)) (Hk D k) (Rk D k) (Fk D k)) S hLW Ya hh
 let c₁ (I:Addr) (i k:Nat):Cx:=cA w g A s₁ L a (XL D) sx dx hl (AsA rd hl rw rf) (Cs1 D nv sv) (I::W1 L rd hl rw rf a) i (LsA rd hl rw rf (wdPV (D.take k)) (Hk D k) (Rk D k) (Fk D k)) S (List.mem_cons_of_mem I hLW) Ya hh
 have st:((c₀ 0 0).wr ρ₀).St s:=st
 have go:=Xx st
 refine go _ _ _ ?_
 have hps:=page_short hDl
 refine Xq (Vi (c:=(c₀ 0 0).wr ρ₀) st (ps:=(List.range D.length).map fun i=>.int (i:Nat)) (JR ?_ ?_ rfl ?_) (fun _=>rfl) rfl
  (fun I k s'=>IA s₁ L a sx dx (LsA rd hl rw rf [] [] [] []) (W1 L rd hl rw rf a) I∧∃i,i≤(XL D).length+1∧Rst D k ((XL D).cps.toList.drop i)∧((c₁ I i k).wr ρ₀).St s')
  (435::L::rd::hl::rw ::rf::a.vol) (fun b hb=> ?_) (fun I s' k hI I9 hlv hsq=> ?_) (fun I k s₂ s₃ hI J kI hlv hsq=> ?_) (fun I k p v s₂ hp hI I9 hsq J hr=> ?_) (fun I s₂ s' hI I9 J kI=> ?_))
 ·exact Xm rfl (by kernel_rfl) (by kernel_rfl) rfl
 ·refine YP (p:=.int ((D.map Xw).length:Nat)) (XQ (fv:=.builtin "len") (ps:=[.lst (D.map Xw)]) (Xm rfl (by kernel_rfl) (by kernel_rfl) rfl) (Xc (YB (Xa rfl rfl rfl rfl) fun s st=>st.2.2.cs (.lst (D.map Xw),nv) (.head _)) Xd rfl) rfl (.inl ⟨_,rfl⟩) (ZO (by rw[List.length_map];exact Nat.lt_of_le_of_lt hDl (by decide)))) (by rw[List.length_map])
 ·exact Nat.lt_of_le_of_lt hDl (by decide)
 ·rcases Xz.mp hb with rfl |hb
  ·exact .inr rfl
  ·exact .inl hb
 ·have T:=Ko st hI I9
  exact⟨T.sub Vt,0,Nat.zero_le _,rst_zero D,KO st rfl k hI I9 hlv⟩
 ·obtain⟨T,i,hi,hR,st'⟩:=J
  exact⟨T,i,hi,hR,Wm (T.sub Vt) st' rfl kI hlv⟩
 ·obtain⟨T,i,hi,hR,st'⟩:=J
  obtain⟨hk,rfl⟩:=rng_at hp
  obtain⟨d,hd⟩:∃d,D[k]? =some d:=⟨_,List.getElem?_eq_getElem hk⟩
  have hdD:=List.mem_of_getElem? hd
  obtain⟨r',hT,hR'⟩:=PL.tok k d _ hd hR
  rw[Rep]at hr
  obtain⟨tk,rfl⟩:=hr
  have to₂:=XS (x:="k") (p:=.int (k:Nat)) (v:=.int (k:Nat) tk) st' YG (.inl rfl)
  refine wpAny_assign_Name (to₂ _ _ _ fun s₃ st₃ k₃=> ?_)
  refine wpAny_mono (body1 hg hdep hfr hnd ⟨fun m=> ?_,T.all,T.hd⟩ (Nat.le_trans hDl (by decide)) hd hps hi (PL.sp d hdD) (PL.vl d hdD) hT (Ub st₃)) (fun f s₄ q=> ?_) fun _ _ x=>x
  ·rcases mem4 m with q |q |q |q
   ·exact T.ls (rd,[]) (by repeat constructor) q
   ·exact T.ls (hl,Xf []) (by repeat constructor) q
   ·exact T.ls (rw,Xf []) (by repeat constructor) q
   ·exact T.ls (rf,YE []) (by repeat constructor) q
  ·obtain⟨rfl,⟨j,hj,hdr,st₄⟩,k₄⟩:=q
   exact⟨rfl,⟨T,j,hj,by rw[hdr];exact hR',st₄⟩,(Yt (YH w.params) (.tail _ (.head _)) k₃).trans k₄⟩
 ·obtain⟨T,i,hi,hR,st'⟩:=J
  rw[List.length_map,List.length_range]at hR st'
  exact⟨rfl,h i s' hi hR (Vv (T.sub Vt) st' rfl kI)⟩
noncomputable abbrev WB(L:Addr)(a:LexA):List Addr:=L::a.vol
noncomputable abbrev W2(L kp du:Addr)(a:LexA):List Addr:=L::kp::du::a.vol
noncomputable abbrev CsB(D:List Nat)(nv sv:Value)(rd hl rw rf:Addr):List (PV×Value):=[(.lst (D.map Xw),nv),(.lst (wdPV D),sv),(.lst (wdPV D),.ref rd),(kvPV (Hk D D.length),.ref hl),(kvPV (Rk D D.length),.ref rw),(.lst (YE (Fk D D.length)),.ref rf)]
theorem Zt{α:Type}{p:Addr×α→Prop}:∀x∈([]:List (Addr×α)),p x:=fun x hx=>by cases hx
theorem Ka.rep{W W':List Addr}{h:Heap}{x:Addr}{ps:List PV}(l:Ka W h x ps)(hsub:∀b d y n,tb W b=false→h.get? b=some ⟨d,Option.none,.seq y n,#[]⟩→tb W' b=false)(hx:439≤x)(hn:x∉W'):Rep W' h (.lst ps) (.ref x):=by
 obtain⟨vs,n,e,r⟩:=l
 rw[Rep]
 exact⟨x,_,rfl,Yx (Xv hx) hn,⟨n,e⟩,r.sub hsub⟩
structure Plain2(D:List Nat):Prop where
 fw:ZV (wdPV D)=true
 fr:ZV (Xf (Rk D D.length))=true
 fh:ZV (Xf (Hk D D.length))=true
 hs:∀p∈Hk D D.length,(Txt.lower p.1).length≤1000
 rs:∀p∈Rk D D.length,p.1.length≤1000
 ord:∀p:Array Nat,PI (Hk D D.length).length p (Hk D D.length).length→Asc (fun i j=>ltS (fstS ((Xf (Hk D D.length)).getD i elt0)) (fstS ((Xf (Hk D D.length)).getD j elt0))) p (Hk D D.length).length→(p.toList.map fun i=>(Xf (Hk D D.length)).getD i elt0)=Xf (Rk D D.length)
 fd:∀d∈D,∀n:Nat,1≤n→n≤3→JV (Rk D D.length) (Hk D D.length) (Str.sl (spell d) none (some n))=dueR (Hk D D.length) (Rk D D.length) d n
 ft:∀d∈D,∀n:Nat,1≤n→n≤3→fitP (dueR (Hk D D.length) (Rk D D.length) d n)=true
 dp:∀d n,dpt (dueR (Hk D D.length) (Rk D D.length) d n)≤64
theorem wp_toE{c':Cx}{s:Shared}(_:c'.St s)(e:PySem.Expr)(Q E:Value→Shared→Prop)(h:wpAny (model pw c'.w) c'.A (eval e c'.env) Q E s):wpAny (model pw c'.w) c'.A (eval e c'.env) Q E s:=h
theorem law_d{w:World}{g:Nat→Obj}{A:Around}{s₁:Shared}{L:Addr}{a:LexA}{sx dx hl rd rw rf:Addr}{nv sv:Value}{D:List Nat}(hDl:D.length≤10)(PL:Plain D)(P2:Plain2 D){S:SA L a sx dx (AsA rd hl rw rf)}{hLW:L∈W1 L rd hl rw rf a}{hh:A.handled=none}(hdep:A.depth+10<recursionLimit)(hu:A.units+3+64<cLine)(hnd:(AsA rd hl rw rf).Nodup)(hfresh:∀b∈W1 L rd hl rw rf a,s₁.heap.get? b=none)
{rest:List Stmt}{Q:Flow→Shared→Prop}{E:Value→Shared→Prop}{i:Nat}{s:Shared}(hi:i≤(XL D).length+1)(hR:Rst D D.length ((XL D).cps.toList.drop i))
(st:((cA w g A s₁ L a (XL D) sx dx hl (AsA rd hl rw rf) (Cs1 D nv sv) (W1 L rd hl rw rf a) i (LsA rd hl rw rf (wdPV (D.take D.length)) (Hk D D.length) (Rk D D.length) (Fk D D.length)) S hLW Ya hh).wr (ρ1 nv sv a rd rw rf sx)).St s)
(h:∀kp du j s' (S2:SA L a sx dx [kp,du]) (hLW2:L∈W2 L kp du a),kp≠du→s₁.heap.get? kp=none→s₁.heap.get? du=none→((cA w g A s₁ L a (XL D) sx dx hl [kp,du] (CsB D nv sv rd hl rw rf) (W2 L kp du a) j (LsB kp du (Hk D 0) (Fk D 0)) S2 hLW2 Zz hh).wr (("due",.val (.ref du))::("kept",.val (.ref kp))::ρ1 nv sv a rd rw rf sx)).St s'→
   wpAny (model pw w) (A.deeper (callEnv (fdOf (o438 w.params)) L 438)) (execs rest (callEnv (fdOf (o438 w.params)) L 438)) Q E s'):
 wpAny (model pw w) (A.deeper (callEnv (fdOf (o438 w.params)) L 438)) (execs (lawS 9::lawS 10::lawS 11::rest) (callEnv (fdOf (o438 w.params)) L 438)) Q E s:=by
 have h9:lawS 9=lawS 9:=rfl
 conv at h9=>rhs;whnf
 have h10:lawS 10=lawS 10:=rfl
 conv at h10=>rhs;whnf
 have h11:lawS 11=lawS 11:=rfl
 conv at h11=>rhs;whnf
 rw[h9,h10,h11]
 have hps:=page_short hDl
 rw[List.take_length]at st
 let e₁:Env:=callEnv (fdOf (o438 w.params)) L 438
 let A₁:Around:=A.deeper e₁
 let ρ₀:List (Str×PV):=ρ1 nv sv a rd rw rf sx
 have X:LF s₁ w.params a (XL D) sx dx hl (Cs1 D nv sv) (W1 L rd hl rw rf a) i (LsA rd hl rw rf (wdPV D) (Hk D D.length) (Rk D D.length) (Fk D D.length)) s:=st.2.2
 have sub1:∀b∈WB L a,b∈W1 L rd hl rw rf a:=fun b hb=>by
  simp only[List.mem_cons]at hb ⊢
  rcases hb with q |q
  ·exact .inl q
  ·exact .inr (.inr (.inr (.inr (.inr q))))
 have hsub:∀b d y n,tb (W1 L rd hl rw rf a) b=false→s.heap.get? b=some ⟨d,Option.none,.seq y n,#[]⟩→tb (WB L a) b=false:=fun b d y n hb _=>Yx (Xu hb) fun m=>XM hb (sub1 b m)
 have nWB:∀x∈AsA rd hl rw rf,x∉WB L a:=fun x hx m=>by
  rcases List.mem_cons.mp m with q |q
  ·exact S.LA x hx q
  ·exact S.Aa x hx (XJ q)
 have SB:SA L a sx dx []:=⟨S.L9,(fun x hx=>by cases hx),S.La,S.Lx,(fun x hx=>by cases hx),(fun x hx=>by cases hx),(fun x hx=>by cases hx),S.va⟩
 let xB (n:Nat):Shared→Prop:=LF s₁ w.params a (XL D) sx dx hl (CsB D nv sv rd hl rw rf) (WB L a) n []
 let cB (n:Nat):Cx:=cA w g A s₁ L a (XL D) sx dx hl [] (CsB D nv sv rd hl rw rf) (WB L a) n [] SB (.head _) Zt hh
 have XB:xB i s:=X.re hsub (fun b hb=>.inl (sub1 b hb)) (fun b hb=>.inr (hfresh b hb)) (fun x hx=>by cases hx) fun x hx=>by
  rcases mem6 hx with rfl |rfl |rfl |rfl |rfl |rfl
  ·exact .inl (.head _)
  ·exact .inl (.tail _ (.head _))
  ·exact .inr ((X.ls (rd,wdPV D) (by repeat constructor)).rep hsub (S.A9 rd (by repeat constructor)) (nWB rd (by repeat constructor)))
  ·exact .inr ((X.ls (hl,Xf (Hk D D.length)) (by repeat constructor)).rep hsub (S.A9 hl (by repeat constructor)) (nWB hl (by repeat constructor)))
  ·exact .inr ((X.ls (rw,Xf (Rk D D.length)) (by repeat constructor)).rep hsub (S.A9 rw (by repeat constructor)) (nWB rw (by repeat constructor)))
  ·exact .inr ((X.ls (rf,YE (Fk D D.length)) (by repeat constructor)).rep hsub (S.A9 rf (by repeat constructor)) (nWB rf (by repeat constructor)))
 have stB:((cB i).wr (ρ₀)).St s:=St.goL st rfl (.refl s:KpF false [] s s) (fun b hb=>by cases hb) (fun m=>by cases m) (fun b hb=>st.2.1.vol b (sub1 b hb)) XB
 have hxe:∀s s':Shared,(∃j,xB j s)→KpF false (L::(fdOf (o438 w.params)).closure.map (fun x:Str×Addr=>x.2)) s s'→∃j,xB j s':=fun s s' ⟨j,x⟩ k=>⟨j,Wt w.params SB (.head _) Zt s s' x k⟩
 let cE:Cx:=Jd w g A L (WB L a) (fun s=>∃j,xB j s) hxe hh
 have hstr:dpts (wdPV D)≤0:=UH fun p hp=>by
  obtain⟨d,_,rfl⟩:=List.mem_map.mp hp
  exact Nat.le_refl _
 refine wpAny_execs_cons ?_
 rw[exec_If]
 refine wpAny_bind (wpAny_standAt (wpAny_bind ?_))
 refine isTrue_or (wpAny_mono ((Xj (c:=(cB i).wr (ρ₀)) (p:=.lst (wdPV D)) (q:=.lst (wdPV D)) (b:=false) (YB (Xa rfl rfl rfl rfl) fun s st=>st.2.2.cs (.lst (wdPV D),.ref rd) (by repeat constructor)) (YB (Xa rfl rfl rfl rfl) fun s st=>st.2.2.cs (.lst (wdPV D),sv) (by repeat constructor)) (ZG (by exact P2.fw) (Nat.succ_le_succ (Nat.le_trans hstr (by decide))) hu) rfl).go s stB) (fun y s₂ q=> ?_) fun _ _ x=>x.elim)
 obtain⟨rfl,k₂⟩:=q
 have st₂:=stB.kp k₂
 rw[if_neg Bool.false_ne_true]
 refine isTrue_or (wp_cmpR (c:=cE.wr (ρ₀)) (p:=.str ⟨#[]⟩) (q:=.str ⟨#[]⟩) (b:=false) ?_ XK (ZG (by decide +kernel) (Nat.zero_le _) hu) rfl)
 have go₂:=wp_toE st₂
 refine go₂ _ _ _ ?_
 refine UM (f:=230) (sx:=a.lx) (C:=240) (K:=KLx w.params) st₂ (Xa rfl rfl rfl rfl) (fun s' st'=>Yz st'.1) (fun s' st'=>cA_inst st') (by kernel_rfl) (by kernel_rfl) (by kernel_rfl) (by kernel_rfl) (by kernel_rfl) rfl rfl fun s₃ k₃ st₃=> ?_
 have X₃:xB i s₃:=st₃.2.2
 refine wpAny_mono (gettok_ok (A:=A₁) hh (show A.depth+1+3<recursionLimit from dep2 hdep (by decide)) st₃.1 X₃.lex hps hi (PL.fin _ hR)) (fun v s₄ q=> ?_) fun _ _ x=>x.elim
 obtain⟨⟨tk,rfl⟩,⟨j,_,_,La⟩,k₄⟩:=q
 have X₄:=X₃.tok k₄ (fun b hb=>.tail _ hb) (fun b hb=>S.va b (XJ hb)) (fun x hx=>by cases hx) La
 have st₄:(cE.wr (ρ₀)).St s₄:=St.goL st₃ rfl k₄ (fun b hb=>.inl (X₃.big b (XJ hb))) (fun m=>absurd (XJ m) S.La) (Ua st₃.2.1.vol k₄ fun b hb=>La.live (XJ hb)) ⟨j,X₄⟩
 refine⟨st₄,by rw[Rep];exact⟨_,rfl⟩,fun s₅ k₅ st₅=> ?_⟩
 rw[if_neg Bool.false_ne_true]
 refine isTrue_or_nil ?_
 obtain⟨j₅,X₅⟩:=st₅.2.2
 have stC:((cB j₅).wr (ρ₀)).St s₅:=St.goL st₅ rfl (.refl s₅:KpF false [] s₅ s₅) (fun b hb=>by cases hb) (fun m=>by cases m) st₅.2.1.vol X₅
 show wpAny (model pw w) (A₁) (execs [] e₁) _ _ s₅
 refine wpAny_execs_nil ?_
 have go₅:=Xx stC
 refine go₅ _ _ _ ?_
 have frL:∀{s s':Shared},KpF false (e₁.locals::e₁.cells.map (·.2)) s s'→KpF false [L] s s':=fun k=>Yt (YH w.params) (.head _) k
 refine Ja (ps:=[]) stC (YS Xd (by decide)) (.inl rfl) rfl (nocells (by kernel_rfl)) fun kp vs s₆ s₇ kp9 kpn kpg kpr k₆ st₇ k₇=> ?_
 obtain rfl:=Yh kpr
 have c57:KpF false [L] s₅ s₇:=(KpF.of k₆).trans (frL k₇)
 refine Ja (ps:=[]) st₇ (YS Xd (by decide)) (.inl rfl) rfl (nocells (by kernel_rfl)) fun du vs s₈ s₉ du9 dun dug dur k₈ st₉ k₉=> ?_
 obtain rfl:=Yh dur
 have c79:KpF false [L] s₇ s₉:=(KpF.of k₈).trans (frL k₉)
 have L5:∃o,s₅.heap.get? L=some o:=let⟨m,⟨o,_,_,ho,_⟩,_⟩:=stC.2.1.ns;⟨o,ho⟩
 have L7:∃o,s₇.heap.get? L=some o:=let⟨m,⟨o,_,_,ho,_⟩,_⟩:=st₇.2.1.ns;⟨o,ho⟩
 have L9:∃o,s₉.heap.get? L=some o:=let⟨m,⟨o,_,_,ho,_⟩,_⟩:=st₉.2.1.ns;⟨o,ho⟩
 have v₅:∀b∈L::sx::dx::a.all,∃o,s₅.heap.get? b=some o:=fun b hb=>by
  rcases Xz.mp hb with rfl |hb
  ·exact L5
  rcases Xz.mp hb with rfl |hb
  ·obtain⟨sl,e⟩:=X₅.hd.obj;exact⟨_,e⟩
  rcases Xz.mp hb with rfl |hb
  ·obtain⟨_,_,_,e⟩:=X₅.hd.dict;exact⟨_,e⟩
  ·exact X₅.lex.live hb
 have v₇:∀b∈kp::L::sx::dx::a.all,∃o,s₇.heap.get? b=some o:=fun b hb=>by
  rcases Xz.mp hb with rfl |hb
  ·exact⟨_,kpg⟩
  ·exact ZN v₅ c57 L7 b hb
 have y₅:=Yo v₅ kpn
 have y₇:=Yo v₇ dun
 simp only[List.mem_cons,not_or]at y₅ y₇
 have du5:s₅.heap.get? du=none:=Zg c57 (fun m=>y₇.2.1 (List.mem_singleton.mp m)) dun
 have S2:SA L a sx dx [kp,du]:=by
  refine⟨S.L9,fun x hx=> ?_,S.La,S.Lx,fun x hx=> ?_,fun x hx=> ?_,fun x hx=> ?_,S.va⟩<;>simp only[List.mem_cons,List.not_mem_nil,or_false]at hx<;>rcases hx with rfl |rfl
  ·exact kp9
  ·exact du9
  ·exact y₅.1
  ·exact y₇.2.1
  ·exact y₅.2.2.2
  ·exact y₇.2.2.2.2
  ·exact⟨y₅.2.1,y₅.2.2.1⟩
  ·exact⟨y₇.2.2.1,y₇.2.2.2.1⟩
 have hLW2:L∈W2 L kp du a:=.head _
 have back:∀{b:Addr},b∉WB L a→439≤b→s₅.heap.get? b=none→s₁.heap.get? b=none:=fun{b} hb h9 hn=>Zg X₅.tr (fun m=>by
  simp only[List.mem_cons]at m hb
  rcases m with q |q |q |q
  ·rw[q]at h9;exact absurd h9 (by decide)
  ·rw[q]at h9;exact absurd h9 (by decide)
  ·rw[q]at h9;exact absurd h9 (by decide)
  ·exact hb q) hn
 have nkp:kp∉WB L a:=fun m=>by
  rcases List.mem_cons.mp m with q |q
  ·exact y₅.1 q
  ·exact y₅.2.2.2 (XJ q)
 have ndu:du∉WB L a:=fun m=>by
  rcases List.mem_cons.mp m with q |q
  ·exact y₇.2.1 q
  ·exact y₇.2.2.2.2 (XJ q)
 have memW2:∀b∈W2 L kp du a,b=kp∨b=du∨b∈WB L a:=fun b hb=>by
  simp only[List.mem_cons]at hb ⊢
  rcases hb with q |q |q |q
  ·exact .inr (.inr (.inl q))
  ·exact .inl q
  ·exact .inr (.inl q)
  ·exact .inr (.inr (.inr q))
 have X2:LF s₁ w.params a (XL D) sx dx hl (CsB D nv sv rd hl rw rf) (W2 L kp du a) j₅ [] s₅:=X₅.re (fun b d x n hb e=>Yx (Xu hb) fun m=>by
  rcases memW2 b m with q |q |q
  ·rw[q,kpn]at e;cases e
  ·rw[q,du5]at e;cases e
  ·exact XM hb q) (fun b hb=>by
  rcases memW2 b hb with q |q |q
  ·rw[q];exact .inr (.inl kpn)
  ·rw[q];exact .inr (.inl du5)
  ·exact .inl q) (fun b hb=>.inl (by
  simp only[List.mem_cons]at hb ⊢
  rcases hb with q |q
  ·exact .inl q
  ·exact .inr (.inr (.inr q)))) (fun x hx=>.inl hx) (fun x hx=>.inl hx)
 have nL:∀{x:Addr},x≠L→x∉[L]:=fun h m=>h (List.mem_singleton.mp m)
 have X3:=X2.mv (Ls':=LsB kp du (Hk D 0) (Fk D 0)) (c57.trans c79) (fun b hb=>by rw[List.mem_singleton.mp hb];exact hLW2) (fun b hb=>by rw[List.mem_singleton.mp hb];exact S.L9) (fun b hb=>by rw[List.mem_singleton.mp hb];exact⟨S.La,S.Lx⟩) fun x hx=>by
  rcases mem2 hx with rfl |rfl
  ·exact .inl ⟨[],_,c79.get0 (nL y₅.1) kpg,XW⟩
  ·exact .inl ⟨[],_,dug,XW⟩
 have v₉:∀b∈kp::L::sx::dx::a.all,∃o,s₉.heap.get? b=some o:=ZN v₇ c79 L9
 refine h kp du j₅ s₉ S2 hLW2 (fun e=>y₇.1 e.symm) (back nkp kp9 kpn) (back ndu du9 du5) (St.goL st₉ (by rfl) (.refl s₉:KpF false [] s₉ s₉) (fun b hb=>by cases hb) (fun m=>by cases m) (fun b hb=> ?_) X3)
 rcases memW2 b hb with q |q |q
 ·rw[q];exact⟨kp9,_,c79.get0 (nL y₅.1) kpg⟩
 ·rw[q];exact⟨du9,_,dug⟩
 ·exact st₉.2.1.vol b q
noncomputable abbrev ρ2(nv sv:Value)(a:LexA)(rd rw rf sx kp du:Addr):List (Str×PV):=("due",.val (.ref du))::("kept",.val (.ref kp))::ρ1 nv sv a rd rw rf sx
theorem Vs{kp du:Addr}{H H':List (Str×Str)}{F F':List (Nat×Int)}:∀x∈LsB kp du H F,∃y∈LsB kp du H' F',y.1=x.1:=fun x hx=>by
 rcases mem2 hx with rfl |rfl
 ·exact⟨(kp,Xf H'),.head _,rfl⟩
 ·exact⟨(du,YE F'),.tail _ (.head _),rfl⟩
theorem law_e{w:World}{g:Nat→Obj}{A:Around}{s₁:Shared}{L:Addr}{a:LexA}{sx dx hl rd rw rf kp du:Addr}{nv sv:Value}{D:List Nat}(hDl:D.length≤10)(PL:Plain D){S:SA L a sx dx [kp,du]}{hLW:L∈W2 L kp du a}{hh:A.handled=none}(hnd:kp≠du)
{rest:List Stmt}{Q:Flow→Shared→Prop}{E:Value→Shared→Prop}{i:Nat}{s:Shared}
(st:((cA w g A s₁ L a (XL D) sx dx hl [kp,du] (CsB D nv sv rd hl rw rf) (W2 L kp du a) i (LsB kp du (Hk D 0) (Fk D 0)) S hLW Zz hh).wr (ρ2 nv sv a rd rw rf sx kp du)).St s)
(h:∀s',((cA w g A s₁ L a (XL D) sx dx hl [kp,du] (CsB D nv sv rd hl rw rf) (W2 L kp du a) i (LsB kp du (Hk D D.length) (Fk D D.length)) S hLW Zz hh).wr (ρ2 nv sv a rd rw rf sx kp du)).St s'→
   wpAny (model pw w) (A.deeper (callEnv (fdOf (o438 w.params)) L 438)) (execs rest (callEnv (fdOf (o438 w.params)) L 438)) Q E s'):
 wpAny (model pw w) (A.deeper (callEnv (fdOf (o438 w.params)) L 438)) (execs (lawS 12::rest) (callEnv (fdOf (o438 w.params)) L 438)) Q E s:=by
 have h8:lawS 12=lawS 12:=rfl
 conv at h8=>rhs;whnf
 rw[h8]
 let W:List Addr:=W2 L kp du a
 let ρ:List (Str×PV):=ρ2 nv sv a rd rw rf sx kp du
 let cI (V:List Addr) (hV:L∈V) (k:Nat):Cx:=cA w g A s₁ L a (XL D) sx dx hl [kp,du] (CsB D nv sv rd hl rw rf) V i (LsB kp du (Hk D k) (Fk D k)) S hV Zz hh
 let T0 (I:Addr):Prop:=IA s₁ L a sx dx (LsB kp du [] []) W I
 have st:((cI W hLW 0).wr ρ).St s:=st
 have go:=Xx st
 refine go _ _ _ ?_
 refine Xq (Vi (c:=(cI W hLW 0).wr ρ) st (ps:=(List.range D.length).map fun i=>.int (i:Nat)) (JR ?_ ?_ rfl ?_) (fun _=>rfl) rfl
  (fun I k s'=>T0 I∧((cI (I::W) (List.mem_cons_of_mem I hLW) k).wr ρ).St s')
  (L::kp::du::a.vol) (fun b hb=>.inl hb) (fun I s' k hI I9 hlv hsq=> ?_) (fun I k s₂ s₃ hI J kI hlv hsq=> ?_) (fun I k p v s₂ hp hI I9 hsq J hr=> ?_) (fun I s₂ s' hI I9 J kI=> ?_))
 ·exact Xm rfl (by kernel_rfl) (by kernel_rfl) rfl
 ·refine YP (p:=.int ((D.map Xw).length:Nat)) (XQ (fv:=.builtin "len") (ps:=[.lst (D.map Xw)]) (Xm rfl (by kernel_rfl) (by kernel_rfl) rfl) (Xc (YB (Xa rfl rfl rfl rfl) fun s st=>st.2.2.cs (.lst (D.map Xw),nv) (.head _)) Xd rfl) rfl (.inl ⟨_,rfl⟩) (ZO (by rw[List.length_map];exact Nat.lt_of_le_of_lt hDl (by decide)))) (by rw[List.length_map])
 ·exact Nat.lt_of_le_of_lt hDl (by decide)
 ·exact⟨(Ko st hI I9).sub Vs,KO st rfl k hI I9 hlv⟩
 ·obtain⟨T,st'⟩:=J
  have T:T0 I:=T
  exact⟨T,Wm (T.sub Vs) st' rfl kI hlv⟩
 ·obtain⟨T,st'⟩:=J
  obtain⟨hk,rfl⟩:=rng_at hp
  obtain⟨d,hd⟩:∃d,D[k]? =some d:=⟨_,List.getElem?_eq_getElem hk⟩
  have hdD:=List.mem_of_getElem? hd
  rw[Rep]at hr
  obtain⟨tk,rfl⟩:=hr
  have to₂:=XS (x:="k") (p:=.int (k:Nat)) (v:=.int (k:Nat) tk) st' YG (.inl rfl)
  refine wpAny_assign_Name (to₂ _ _ _ fun s₃ st₃ k₃=> ?_)
  refine wpAny_mono (body2 (ρ2:=ρ) rfl rfl rfl rfl hnd (Nat.le_trans hDl (by decide)) (.head _) hd (PL.nm d hdD) (Ub st₃)) (fun f s₄ q=> ?_) fun _ _ x=>x
  obtain⟨rfl,st₄,k₄⟩:=q
  refine⟨rfl,⟨T,st₄.sub (Yf fun p hp=> ?_)⟩,(Yt (YH w.params) (.head _) k₃).trans k₄⟩
  rcases mem9 hp with rfl |rfl |rfl |rfl |rfl |rfl |rfl |rfl |rfl<;>rfl
 ·obtain⟨T,st'⟩:=J
  rw[List.length_map,List.length_range]at st'
  exact⟨rfl,h s' (Vv (T.sub Vs) st' rfl kI)⟩
noncomputable abbrev CsC(D:List Nat)(nv sv:Value)(rd hl rw rf kp du:Addr):List (PV×Value):=(kvPV (Hk D D.length),.ref kp)::(.lst (YE (Fk D D.length)),.ref du)::CsB D nv sv rd hl rw rf
theorem ref_fit(F:List (Nat×Int)):ZV (YE F)=true:=KP fun p hp=>by
 obtain⟨q,_,rfl⟩:=List.mem_map.mp hp
 rfl
theorem ref_dpt(F:List (Nat×Int)):dpts (YE F)≤1:=UH fun p hp=>by
 obtain⟨q,_,rfl⟩:=List.mem_map.mp hp
 exact Nat.le_refl _
theorem tup_dpt(H:List (Str×Str)):dpts (Xf H)≤1:=UH fun p hp=>by
 obtain⟨q,_,rfl⟩:=List.mem_map.mp hp
 exact Nat.le_refl _
theorem callWith_bK{M:Model}{A:Around}{E:Value→Shared→Prop}{s:Shared}{pos:Pos}{id:String}{first:List Value}{args:List (Bool×Sem Value)}{keywords:List (Option Str×Sem Value)}{Q:Value→Shared→Prop}(hplain:(args.any (·.1)||keywords.any (·.1.isNone))=false)
(h:wpAny M A (evalArgs (.builtin id) true args keywords) (fun a s₁=>wpAny M A (PySem.call (.builtin id) (first ++a.pos) a.kw) Q E s₁) E s):
 wpAny M A (callWith pos (.builtin id) first args keywords) Q E s:=by
 unfold callWith
 refine wpAny_bind (wpAny_holding (wpAny_mono h (fun a s₁ h₁=>wpAny_bind (wpAny_standAt ?_)) fun _ _ x=>x))
 simp only[hplain]
 refine wpAny_bind (wpAny_pure ?_)
 exact wpAny_bind (wpAny_mono h₁ (fun r s₂ hr=>wpAny_bind (wpAny_holding (wpAny_point (wpAny_pure hr)))) fun _ _ x=>x)
theorem wp_callKb{c:Cx}{f:PySem.Str}{np pos kp:Pos}{e:PySem.Expr}{rest:List PySem.Expr}{ek:PySem.Expr}{kn:Str}{ps:List PV}{id:String}{s:Shared}{Q E:Value→Shared→Prop}(hs:c.St s)(hf:EvOk c (.Name f np) (.val (.builtin id)))
(ha:YK c pos (e::rest) ps)(hn:(e::rest).all (fun e=> !XV e)=true)
(h:∀vs s₁,Xb c.V s₁.heap ps vs→Kp c.lam s s₁→c.St s₁→wpAny (model pw c.w) c.A (eval ek c.env) (fun kv s₂=>wpAny (model pw c.w) c.A (PySem.call (.builtin id) vs [(kn,kv)]) Q E s₂) E s₁):
 wpAny (model pw c.w) c.A (eval (.Call (.Name f np) (e::rest) [{arg:=some kn,value:=ek,pos:=kp}] pos) c.env) Q E s:=by
 have hst:XV e=false:=by
  have:=List.all_eq_true.mp hn e (List.mem_cons_self ..)
  simpa using this
 have hpl:(backTo pos (starEach (e::rest) c.env)).any (·.1)=false:=ZM hn
 show wpAny _ _ (eval (.Name f np) c.env >>= fun f=>callWith pos f [] (backTo pos (starEach (e::rest) c.env)) (backToKw pos (keywordEach [{arg:=some kn,value:=ek,pos:=kp}] c.env))) _ _ s
 refine wpAny_bind (Xi hf hs fun v s₁ r₁ k₁ st₁=> ?_)
 rw[Rep]at r₁
 subst r₁
 refine callWith_bK (by rw[hpl];rfl) (evalArgs_kw2 rfl ?_ (Xt hst))
 refine wpAny_mono (ha.go s₁ st₁) (fun vs s₂ q=> ?_) fun _ _ x=>x.elim
 obtain⟨q,k₂⟩:=q
 show wpAny _ _ (evalAll [_]) _ _ s₂
 refine wpAny_evalAll_cons ?_
 show wpAny _ _ (do let v ←eval ek c.env;standAt pos;pure v) _ _ _
 refine wpAny_bind (wpAny_mono (h vs s₂ q (k₁.trans k₂) (st₁.kp k₂)) (fun kv s₃ q3=> ?_) fun _ _ x=>x)
 refine wpAny_bind (wpAny_standAt (wpAny_pure ?_))
 exact wpAny_evalAll_nil q3
theorem law_f{w:World}{g:Nat→Obj}{A:Around}{s₁:Shared}{L:Addr}{a:LexA}{sx dx hl rd rw rf kp du:Addr}{nv sv:Value}{D:List Nat}(hDl:D.length≤10)(P2:Plain2 D){S:SA L a sx dx [kp,du]}{S0:SA L a sx dx []}{hLW:L∈W2 L kp du a}{hh:A.handled=none}(hdep:A.depth+10<recursionLimit)(hu:A.units+3+64<cLine)(hfresh:∀b∈W2 L kp du a,s₁.heap.get? b=none)
{rest:List Stmt}{Q:Flow→Shared→Prop}{E:Value→Shared→Prop}{i:Nat}{s:Shared}
(st:((cA w g A s₁ L a (XL D) sx dx hl [kp,du] (CsB D nv sv rd hl rw rf) (W2 L kp du a) i (LsB kp du (Hk D D.length) (Fk D D.length)) S hLW Zz hh).wr (ρ2 nv sv a rd rw rf sx kp du)).St s)
(h:∀ov s',((cA w g A s₁ L a (XL D) sx dx hl [] ((kvPV (Rk D D.length),ov)::CsC D nv sv rd hl rw rf kp du) [L] i [] S0 (.head _) Zt hh).wr (("ordered",.val ov)::ρ2 nv sv a rd rw rf sx kp du)).St s'→
   wpAny (model pw w) (A.deeper (callEnv (fdOf (o438 w.params)) L 438)) (execs rest (callEnv (fdOf (o438 w.params)) L 438)) Q E s'):
 wpAny (model pw w) (A.deeper (callEnv (fdOf (o438 w.params)) L 438)) (execs (lawS 13::lawS 14::rest) (callEnv (fdOf (o438 w.params)) L 438)) Q E s:=by
 have h13:lawS 13=lawS 13:=rfl
 conv at h13=>rhs;whnf
 have h14:lawS 14=lawS 14:=rfl
 conv at h14=>rhs;whnf
 rw[h13,h14]
 let e₁:Env:=callEnv (fdOf (o438 w.params)) L 438
 let A₁:Around:=A.deeper e₁
 let ρ₀:List (Str×PV):=ρ2 nv sv a rd rw rf sx kp du
 let xC:Shared→Prop:=LF s₁ w.params a (XL D) sx dx hl (CsC D nv sv rd hl rw rf kp du) [L] i []
 let cC:Cx:=cA w g A s₁ L a (XL D) sx dx hl [] (CsC D nv sv rd hl rw rf kp du) [L] i [] S0 (.head _) Zt hh
 have X:LF s₁ w.params a (XL D) sx dx hl (CsB D nv sv rd hl rw rf) (W2 L kp du a) i (LsB kp du (Hk D D.length) (Fk D D.length)) s:=st.2.2
 have hsub:∀b d y n,tb (W2 L kp du a) b=false→s.heap.get? b=some ⟨d,Option.none,.seq y n,#[]⟩→tb [L] b=false:=fun b d y n hb _=>Yx (Xu hb) fun m=>XM hb (by rw[List.mem_singleton.mp m];exact .head _)
 have nL:∀x∈([kp,du]:List Addr),x∉[L]:=fun x hx m=>S.LA x hx (List.mem_singleton.mp m)
 have XC:xC s:=X.re hsub (fun b hb=>.inl (by rw[List.mem_singleton.mp hb];exact .head _)) (fun b hb=>.inr (hfresh b hb)) (fun x hx=>by cases hx) fun x hx=>by
  rcases Xz.mp hx with rfl |hx
  ·exact .inr ((X.ls (kp,Xf (Hk D D.length)) (by repeat constructor)).rep hsub (S.A9 kp (by repeat constructor)) (nL kp (by repeat constructor)))
  rcases Xz.mp hx with rfl |hx
  ·exact .inr ((X.ls (du,YE (Fk D D.length)) (by repeat constructor)).rep hsub (S.A9 du (by repeat constructor)) (nL du (by repeat constructor)))
  ·exact .inl hx
 have stC:(cC.wr ρ₀).St s:=St.goL st rfl (.refl s:KpF false [] s s) (fun b hb=>by cases hb) (fun m=>by cases m) (fun b hb=>st.2.1.vol b (by rw[List.mem_singleton.mp hb];exact .head _)) XC
 have go:=Xx stC
 refine go _ _ _ ?_
 have hHl:(Xf (Hk D D.length)).length≤10:=by
  unfold Xf
  rw[List.length_map]
  exact Nat.le_trans Va hDl
 have evItems:∀{p1 p2 p3:Pos},(p2.endLine==p3.line)=true→EvOk (cC.wr ρ₀) (.Call (.Attribute (.Name "table" p1) "items" p2) [] [] p3) (kvPV (Hk D D.length)):=fun hl=>.mk fun s st=>by
  refine UM (f:=352) (sx:=sx) (C:=388) (K:=KHd w.params) st (Xa rfl rfl rfl rfl) (fun s' st'=>YU st'.1) (fun s' st'=> ?_) (by kernel_rfl) (by kernel_rfl) (by kernel_rfl) (by kernel_rfl) (by kernel_rfl) rfl hl fun s₂ k₂ st₂=> ?_
  ·obtain⟨ox,od,I,_,h,_⟩:=st'.2.2.hd.inst3
   exact⟨ox,od,I,h⟩
  ·exact wpAny_mono (items_ok (A:=A₁) (V:=[L]) (ps:=Xf (Hk D D.length)) (by lia) hh (show A.depth+1+1<recursionLimit from dep2 hdep (by decide)) st₂.1 st₂.2.1.vol st₂.2.2.hd (st₂.2.2.cs (kvPV (Hk D D.length),.ref _) (by repeat constructor))) (fun v s₃ q=>⟨q.1,k₂.trans q.2⟩) fun _ _ x=>x
 refine Ye (b:=false) stC (Xk (Kf (a:=false) (Xj (p:=.lst (YE (Fk D D.length))) (q:=.lst (YE (Fk D D.length))) (YB (Xa rfl rfl rfl rfl) fun s st=>st.2.2.cs (.lst (YE (Fk D D.length)),.ref rf) (by repeat constructor)) (YB (Xa rfl rfl rfl rfl) fun s st=>st.2.2.cs (.lst (YE (Fk D D.length)),.ref du) (by repeat constructor)) (ZG (by exact ref_fit _) (Nat.succ_le_succ (Nat.le_trans (ref_dpt (Fk D D.length)) (by decide))) hu) rfl) fun _=>Kf (a:=false) (Xj (p:=kvPV (Hk D D.length)) (q:=kvPV (Hk D D.length)) (evItems rfl) (YB (Xa rfl rfl rfl rfl) fun s st=>st.2.2.cs (kvPV (Hk D D.length),.ref kp) (by repeat constructor)) (ZG P2.fh (Nat.succ_le_succ (Nat.le_trans (tup_dpt (Hk D D.length)) (by decide))) hu) rfl) fun _=>JH) rfl) fun s₂ st₂ k₂=> ?_
 refine wpAny_execs_nil ?_
 have go₂:=Xx st₂
 refine go₂ _ _ _ ?_
 refine Zy st₂ (.inl rfl) rfl (wp_callKb (id:="sorted") st₂ (Xm rfl (by kernel_rfl) (by kernel_rfl) rfl) (ps:=[.val (.ref kp)]) (Xc (Xa rfl rfl rfl rfl) Xd rfl) rfl fun vs s₃ r₃ k₃ st₃=> ?_)
 obtain⟨u1,g1⟩:=Uv r₃
 rw[Rep]at g1
 subst g1
 have X₃:xC s₃:=st₃.2.2
 refine law_lam st₃ X₃.t435 (fun b hb=>let⟨_,_,e⟩:=st₃.2.1.vol b hb;Heap.lt_size e) fun fa objs s₄ k₄ T₄ xo₄ key₄ fun₄ o9₄=> ?_
 have X₄:=X₃.tab (t:=435) k₄ rfl (fun b hb=>(st₃.2.1.vol b hb).1) (fun x hx=>by cases hx) (fun _=>T₄) (fun h=>absurd h (by decide)) (by decide)
 have st₄:(cC.wr ρ₀).St s₄:=JF Zt st₃ rfl k₄ (fun b hb=>.inr (by rw[List.mem_singleton.mp hb];rfl)) (fun m=>absurd S0.L9 (by rw[List.mem_singleton.mp m];decide)) (fun b hb=>by rw[List.mem_singleton.mp hb];obtain⟨ps,e,_⟩:=T₄;exact⟨_,e⟩) X₄
 have elen:(Xf (Hk D D.length)).length=(Hk D D.length).length:=by unfold Xf;rw[List.length_map]
 refine wpAny_mono (sorted_ok (A:=A₁) (n:=1) (V:=[L]) (f:=fstS) (ps:=Xf (Hk D D.length)) (l:=kp) (by lia) (fun p hp=> ?_) o9₄ hh (show A.depth+1+1<recursionLimit from dep2 hdep (by decide)) (E:=fun _ _=>False) st₄.1 st₄.2.1.vol xo₄ (X₄.cs (kvPV (Hk D D.length),.ref kp) (.head _))) (fun v s₅ q=> ?_) fun _ _ x=>x.elim
 ·obtain⟨q,_,rfl⟩:=List.mem_map.mp hp
  exact key₄ _ _
 obtain⟨p,hp,ha,hr,k₅⟩:=q
 rw[elen]at hp ha
 rw[P2.ord p hp ha]at hr
 have st₅:=st₄.kp k₅
 have to₅:=XS (x:="ordered") (p:=.val v) (v:=v) st₅ Xy (.inl rfl)
 refine to₅ _ _ _ fun s₆ st₆ k₆=> ?_
 have st₆:=Ub st₆
 have X₆:xC s₆:=st₆.2.2
 have k₆':KpF false [L] s₅ s₆:=Yt (YH w.params) (.head _) k₆
 have X₇:LF s₁ w.params a (XL D) sx dx hl ((kvPV (Rk D D.length),v)::CsC D nv sv rd hl rw rf kp du) [L] i [] s₆:=X₆.re (fun b d x n hb _=>hb) (fun b hb=>.inl hb) (fun b hb=>.inl hb) (fun x hx=>.inl hx) fun x hx=>by
  rcases Xz.mp hx with rfl |hx
  ·exact .inr (Zm k₆' (fun b hb=>.inl hb) hr)
  ·exact .inl hx
 exact h v s₆ (St.goL st₆ rfl (.refl s₆:KpF false [] s₆ s₆) (fun b hb=>by cases hb) (fun m=>by cases m) st₆.2.1.vol X₇)
noncomputable abbrev CsD(D:List Nat)(nv sv:Value)(rd hl rw rf kp du:Addr)(ov:Value):List (PV×Value):=(kvPV (Rk D D.length),ov)::CsC D nv sv rd hl rw rf kp du
noncomputable abbrev ρ4(nv sv:Value)(a:LexA)(rd rw rf sx kp du:Addr)(ov:Value):List (Str×PV):=("ordered",.val ov)::ρ2 nv sv a rd rw rf sx kp du
theorem LF.cs_sub{s₁:Shared}{P:Params}{a:LexA}{page:Str}{sx dx hl:Addr}{Cs Cs':List (PV×Value)}{W:List Addr}{i:Nat}{Ls:List (Addr×List PV)}{s:Shared}(X:LF s₁ P a page sx dx hl Cs W i Ls s)(h:∀x∈Cs',x∈Cs∨Rep W s.heap x.1 x.2):LF s₁ P a page sx dx hl Cs' W i Ls s:=X.re (fun b d x n hb _=>hb) (fun b hb=>.inl hb) (fun b hb=>.inl hb) (fun x hx=>.inl hx) h
section
variable{w:World}{g:Nat→Obj}{A:Around}{s₁:Shared}{L:Addr}{a:LexA}{page:Str}{sx dx hl:Addr}{As:List Addr}{Cs Cs':List (PV×Value)}{W:List Addr}{i:Nat}{Ls:List (Addr×List PV)}{S:SA L a sx dx As}{hLW:L∈W}{hLs:∀x∈Ls,x.1∈As}{hh:A.handled=none}{ρ:List (Str×PV)}{s s':Shared}
theorem cA_cs(st:((cA w g A s₁ L a page sx dx hl As Cs W i Ls S hLW hLs hh).wr ρ).St s)(hfl:(ρ.all fun x=>flat x.2)=true)(h:∀x∈Cs',x∈Cs∨Rep W s.heap x.1 x.2):((cA w g A s₁ L a page sx dx hl As Cs' W i Ls S hLW hLs hh).wr ρ).St s:=by
 have X:LF s₁ w.params a page sx dx hl Cs W i Ls s:=st.2.2
 exact St.goL st hfl (.refl s:KpF false [] s s) (fun b hb=>by cases hb) (fun m=>by cases m) st.2.1.vol (X.cs_sub h)
end
theorem law_g{w:World}{g:Nat→Obj}(hg:Facts w g){A:Around}{s₁:Shared}{L:Addr}{a:LexA}{sx dx hl rd rw rf kp du:Addr}{nv sv ov:Value}{D:List Nat}(hDl:D.length≤10)(P2:Plain2 D){S:SA L a sx dx []}{hLW:L∈[L]}{hh:A.handled=none}(hdep:A.depth+10<recursionLimit)(hfr:A.frames=some [])(hu:A.units+3+64<cLine)
{rest:List Stmt}{Q:Flow→Shared→Prop}{E:Value→Shared→Prop}{i:Nat}{s:Shared}
(st:((cA w g A s₁ L a (XL D) sx dx hl [] (CsD D nv sv rd hl rw rf kp du ov) [L] i [] S hLW Zt hh).wr (ρ4 nv sv a rd rw rf sx kp du ov)).St s)
(h:∀s',((cA w g A s₁ L a (XL D) sx dx hl [] (CsD D nv sv rd hl rw rf kp du ov) [L] i [] S hLW Zt hh).wr (ρ4 nv sv a rd rw rf sx kp du ov)).St s'→
   wpAny (model pw w) (A.deeper (callEnv (fdOf (o438 w.params)) L 438)) (execs rest (callEnv (fdOf (o438 w.params)) L 438)) Q E s'):
 wpAny (model pw w) (A.deeper (callEnv (fdOf (o438 w.params)) L 438)) (execs (lawS 15::rest) (callEnv (fdOf (o438 w.params)) L 438)) Q E s:=by
 have h15:lawS 15=lawS 15:=rfl
 conv at h15=>rhs;whnf
 rw[h15]
 let ρ₀:List (Str×PV):=ρ4 nv sv a rd rw rf sx kp du ov
 let Cd:List (PV×Value):=CsD D nv sv rd hl rw rf kp du ov
 let c₀:Cx:=cA w g A s₁ L a (XL D) sx dx hl [] Cd [L] i [] S hLW Zt hh
 let c₁ (I:Addr):Cx:=cA w g A s₁ L a (XL D) sx dx hl [] Cd (I::[L]) i [] S (List.mem_cons_of_mem I hLW) Zt hh
 let c₂ (I:Addr) (d:Nat) (v:Value):Cx:=cA w g A s₁ L a (XL D) sx dx hl [] ((Xw d,v)::Cd) (I::[L]) i [] S (List.mem_cons_of_mem I hLW) Zt hh
 let c₃ (I' I:Addr) (d:Nat) (v:Value):Cx:=cA w g A s₁ L a (XL D) sx dx hl [] ((Xw d,v)::Cd) (I'::I::[L]) i [] S (List.mem_cons_of_mem I' (List.mem_cons_of_mem I hLW)) Zt hh
 have st:(c₀.wr ρ₀).St s:=st
 have go:=Xx st
 refine go _ _ _ ?_
 have big:∀n:Nat,n≤1000→n≤sizeLine:=fun n h=>Nat.le_trans h (by decide +kernel)
 refine Xq (Vi (c:=c₀.wr ρ₀) st (ps:=sl (D.map Xw) none (some 3)) (iterL_of (q:=.lst (sl (D.map Xw) none (some 3))) (YZ (q:=.lst (D.map Xw)) (YB (Xa rfl rfl rfl rfl) fun s st=>st.2.2.cs (.lst (D.map Xw),nv) (by simp[Cd])) YR (Yy (n:=3) Xe) (Jm (by rw[List.length_map];exact big _ (by lia)))) Um) (fun _=>rfl) rfl
  (fun I k s'=>IA s₁ L a sx dx [] [L] I∧((c₁ I).wr ρ₀).St s')
  [425,L] (fun b hb=> ?_) (fun I s' k hI I9 hlv hsq=> ?_) (fun I k s₂ s₃ hI J kI hlv hsq=> ?_) (fun I k p v s₂ hp hI I9 hsq J hr=> ?_) (fun I s₂ s' hI I9 J kI=> ?_))
 ·rcases mem2 hb with rfl |rfl
  ·exact .inr rfl
  ·exact .inl (List.mem_singleton.mpr rfl)
 ·exact⟨Ko st hI I9,KO st rfl k hI I9 hlv⟩
 ·obtain⟨T,st'⟩:=J
  exact⟨T,Wm T st' rfl kI hlv⟩
 ·obtain⟨T,st₂⟩:=J
  obtain⟨d,hdD,rfl⟩:∃d∈D,p=Xw d:=by
   have hm:=List.mem_of_getElem? hp
   rw[Ju]at hm
   obtain⟨d,hd,e⟩:=List.mem_map.mp (List.mem_of_mem_take hm)
   exact⟨d,hd,e.symm⟩
  have hr':Rep (I::[L]) s₂.heap (Xw d) v:=hr.sub fun b d' x n hb e=>Yx (Xu hb) fun m=>by
   rcases List.mem_cons.mp m with q |q
   ·rw[q]at e;exact hsq _ _ _ e
   ·exact XM hb q
  have to₂:=XS (x:="name") (p:=.val v) (v:=v) st₂ Xy (.inl rfl)
  refine wpAny_assign_Name (to₂ _ _ _ fun s₃ st₃ k₃=> ?_)
  have k₃':KpF false [L] s₂ s₃:=Yt (YH w.params) (.head _) k₃
  have st₃:((c₂ I d v).wr (("name",.val v)::ρ₀)).St s₃:=cA_cs (Cs':=(Xw d,v)::Cd) (Ub st₃) rfl fun x hx=>by
   rcases Xz.mp hx with rfl |hx
   ·exact .inr (Zm k₃' (fun b hb=>.inl (.tail _ hb)) hr')
   ·exact .inl hx
  have go₃:=Xx st₃
  refine go₃ _ _ _ ?_
  refine Xq (Vi (c:=(c₂ I d v).wr (("name",.val v)::ρ₀)) st₃ (ps:=[.int 1,.int 2,.int 3]) (iterL_of (q:=.lst [.int 1,.int 2,.int 3]) (JA (Xc Xe (Xc Xe (Xc Xe Xd rfl) rfl) rfl) (show 3≤sizeLine by decide +kernel)) Um) (fun _=>rfl) rfl
   (fun I' m s'=>IA s₁ L a sx dx [] (I::[L]) I'∧s₃.heap.get? I'=none∧KpF false [I',425,L] s₃ s'∧((c₃ I' I d v).wr (("name",.val v)::ρ₀)).St s')
   [425,L] (fun b hb=> ?_) (fun I' s' k' hI' I9' hlv hsq=> ?_) (fun I' m s₄ s₅ hI' J kI hlv hsq=> ?_) (fun I' m p v' s₄ hp' hI' I9' hsq J hr=> ?_) (fun I' s₄ s' hI' I9' J kI=> ?_))
  ·rcases mem2 hb with rfl |rfl
   ·exact .inr rfl
   ·exact .inl (.tail _ (List.mem_singleton.mpr rfl))
  ·exact⟨Ko st₃ hI' I9',hI',.of k',KO st₃ rfl k' hI' I9' hlv⟩
  ·obtain⟨T',n',c',st'⟩:=J
   exact⟨T',n',c'.trans (kI.sub fun b hb=>by rw[List.mem_singleton.mp hb];exact .head _),Wm T' st' rfl kI hlv⟩
  ·obtain⟨T',n',c',st₄⟩:=J
   obtain⟨n,hn1,hn3,rfl⟩:∃n:Nat,1≤n∧n≤3∧p= .int (n:Nat):=by
    match m,hp' with
    |0,e=>exact⟨1,by decide,by decide,(Option.some.inj e).symm⟩
    |1,e=>exact⟨2,by decide,by decide,(Option.some.inj e).symm⟩
    |2,e=>exact⟨3,by decide,by decide,(Option.some.inj e).symm⟩
   rw[Rep]at hr
   obtain⟨tk,rfl⟩:=hr
   have to₄:=XS (x:="count") (p:=.int (n:Nat)) (v:=.int (n:Nat) tk) st₄ YG (.inl rfl)
   refine wpAny_assign_Name (to₄ _ _ _ fun s₅ st₅ k₅=> ?_)
   have k₅':KpF false [425,L] s₄ s₅:=Yt (YH w.params) (.tail _ (.head _)) k₅
   refine wpAny_mono (body3 (ρ:=("count",.int (n:Nat))::("name",.val v)::ρ₀) (R:=Rk D D.length) (H:=Hk D D.length) (d:=d) (n:=n) (rw:=rw) (kp:=kp) (ov:=ov) (nm:=v) hg hdep hfr hu rfl rfl rfl rfl rfl rfl rfl (by simp[Cd]) (by simp[Cd]) (by simp[Cd]) (by simp[Cd]) (by simp[Cd]) (Nat.le_trans Rk_len (by lia)) P2.rs (Nat.le_trans Va (by lia)) P2.hs hn3 (P2.fd d hdD n hn1 hn3) (P2.ft d hdD n hn1 hn3) (P2.dp d n) (Ub st₅)) (fun f s₆ q=> ?_) fun _ _ x=>x
   obtain⟨rfl,st₆,k₆⟩:=q
   have k₄₆:=k₅'.trans k₆
   refine⟨rfl,⟨T',n',c'.trans (k₄₆.sub fun b hb=>.tail _ hb),st₆.sub (Yf fun p hp=> ?_)⟩,k₄₆⟩
   rcases mem11 hp with rfl |rfl |rfl |rfl |rfl |rfl |rfl |rfl |rfl |rfl |rfl<;>rfl
  ·obtain⟨T',n',c',st'⟩:=J
   have stE:((c₁ I).wr (("name",.val v)::ρ₀)).St s':=cA_cs (Cs':=Cd) (Vv (W:=I::[L]) (hLW:=List.mem_cons_of_mem I hLW) T' st' rfl kI) rfl fun x hx=>.inl (.tail _ hx)
   have kE:KpF false [425,L] s₃ s':=(c'.trans (kI.sub fun b hb=>by rw[List.mem_singleton.mp hb];exact .head _)).drop fun b hb hn=>by
    rcases List.mem_cons.mp hb with q |q
    ·rw[q];exact n'
    ·exact absurd q hn
   refine⟨rfl,wpAny_execs_nil ⟨rfl,⟨T,stE.sub (Yf fun p hp=> ?_)⟩,(k₃'.sub fun b hb=>.tail _ hb).trans kE⟩⟩
   rcases mem10 hp with rfl |rfl |rfl |rfl |rfl |rfl |rfl |rfl |rfl |rfl<;>rfl
 ·obtain⟨T,st'⟩:=J
  exact⟨rfl,h s' (Vv T st' rfl kI)⟩
theorem tab_code{w:World}{g:Nat→Obj}{s:Shared}(B:Base w g s):∀{b:Addr},b=394∨b=425∨b=435→∃cA,CodeHd s.heap cA b:=fun{b} h=>by
 rcases h with rfl |rfl |rfl
 ·exact⟨398,codeHd_of_K (K:=[(398,o398 w.params)]) (XD B fun p hp=>by rw[List.mem_singleton]at hp;subst hp;exact⟨rfl,by kernel_rfl⟩) (by kernel_rfl)⟩
 ·exact⟨427,codeHd_of_K (K:=[(427,o427 w.params)]) (XD B fun p hp=>by rw[List.mem_singleton]at hp;subst hp;exact⟨rfl,by kernel_rfl⟩) (by kernel_rfl)⟩
 ·exact⟨437,codeHd_of_K (K:=[(437,o437 w.params)]) (XD B fun p hp=>by rw[List.mem_singleton]at hp;subst hp;exact⟨rfl,by kernel_rfl⟩) (by kernel_rfl)⟩
theorem law_old{w:World}{g:Nat→Obj}{s₁ s':Shared}(B:Base w g s₁){L:Addr}(hL:s₁.heap.get? L=none)(k:KpF false [394,425,435,L] s₁ s')(T:∀b,b=394∨b=425∨b=435→s₁.heap.get? b=some (tabObj #[])∧∃ps,s'.heap.get? b=some (tabObj ps)):OldK s₁.heap s'.heap:=by
 refine⟨fun b o e=> ?_,fun b o e=> ?_⟩
 ·by_cases h:b=394∨b=425∨b=435
  ·obtain⟨t0,ps,t1⟩:=T b h
   obtain⟨cA,hC⟩:=tab_code B h
   rw[t0]at e
   cases e
   exact .inr (.inl ⟨(hC.tab t0).isCodeTable,rfl,#[],ps,rfl,by simpa using t1⟩)
  ·exact .inl (k.get0 (fun m=>by
    simp only[List.mem_cons,List.not_mem_nil,or_false]at m
    rcases m with q |q |q |q
    ·exact h (.inl q)
    ·exact h (.inr (.inl q))
    ·exact h (.inr (.inr q))
    ·rw[q,hL]at e;cases e) e)
 ·by_cases h:b=394∨b=425∨b=435
  ·obtain⟨_,ps,t1⟩:=T b h
   exact⟨_,t1⟩
  ·exact⟨o,k.get0 (fun m=>by
    simp only[List.mem_cons,List.not_mem_nil,or_false]at m
    rcases m with q |q |q |q
    ·exact h (.inl q)
    ·exact h (.inr (.inl q))
    ·exact h (.inr (.inr q))
    ·rw[q,hL]at e;cases e) e⟩
theorem law_walk(hP:∀ns:List Int,ns.length≤63→Plain (Yn ns)∧Plain2 (Yn ns)):VF:=by
 intro w g hF s₁ keeps G hgens a₀ o vs n ns ha9 hao hcls hdata hints hlen
 obtain⟨PL,P2⟩:=hP ns hlen
 have B:Base w g s₁:=⟨fun b o _ e=>keeps b o e,hgens⟩
 have hh:callerA.handled=none:=rfl
 have hdep:callerA.depth+10<recursionLimit:=by decide +kernel
 have hfr:callerA.frames=some []:=rfl
 have hu:callerA.units+3+64<cLine:=by decide +kernel
 have hDl:=draw_len ns
 obtain⟨L,hL⟩:∃L,L=s₁.heap.objs.size:=⟨_,rfl⟩
 have hL9:439≤L:=by rw[hL];exact B.size
 have hLn:s₁.heap.get? L=none:=by rw[hL];exact Yc _
 have T394:s₁.heap.get? 394=some (tabObj #[]):=keeps _ _ (show(S35 w g).heap.get? 394=some (tabObj #[]) by kernel_rfl)
 have T425:s₁.heap.get? 425=some (tabObj #[]):=keeps _ _ (show(S35 w g).heap.get? 425=some (tabObj #[]) by kernel_rfl)
 have T435:s₁.heap.get? 435=some (tabObj #[]):=keeps _ _ (show(S35 w g).heap.get? 435=some (tabObj #[]) by kernel_rfl)
 have hne:a₀≠L:=Yl hao hLn
 have hX:∀s s',X0 L a₀ ns s₁ s→KpF false [L] s s'→X0 L a₀ ns s₁ s':=fun s s' x k=>x0_hX w.params hne s s' x (by rw[YH];exact k)
 have hIs:s₁.heap.IsList a₀ vs:=⟨o,hao,hcls,n,hdata⟩
 refine KU (V:=[]) (l:=false) (s₀:=s₁) (X:=X0 L a₀ ns s₁) (a:=438) (c':=437) (o:=o438 w.params) (oc:=o437 w.params) (cvs:=Xn (o437 w.params)) (ct:=3060) (fd:=fdOf (o438 w.params)) (body:=fdB (stN 36)) (ns:=["script"]) (ps:=[.val (.ref a₀)]) (vs:=[.ref a₀]) (by kernel_rfl) rfl (by kernel_rfl) (by kernel_rfl) (by kernel_rfl) rfl (by kernel_rfl) (by kernel_rfl) (by kernel_rfl) (fun M A E Q q=>by
  have e:bindArgs (fdOf (o438 w.params)) ⟨[.ref a₀],[]⟩=pure ((["script"]:List Str).zip [.ref a₀]):=by kernel_rfl
  rw[e];exact wpAny_pure q) (.refl s₁) (YH _) (by kernel_rfl) (by kernel_rfl) (by kernel_rfl) (by kernel_rfl) (by kernel_rfl) (by kernel_rfl) (by kernel_rfl) hh (by lia) B (fun b hb=>by cases hb) (Xl Xy XW) (by rw[←hL];exact hX) ⟨⟨vs,hIs,hints⟩,.refl s₁⟩ ?_
 rw[←hL]
 intro s₂ hX' k₂ st
 rw[law_body]
 refine law_a (hh:=hh) hdep hlen st fun s₃ st₃=> ?_
 refine law_b (hh:=hh) hdep hDl (fun d hd=>⟨draw_lt hd,?_⟩) T394 T425 T435 hL9 hLn st₃ fun a sx dx hl rd rw rf nv sv s₄ S hLW hnd hfresh st₄=> ?_
 ·have hsp:=PL.sp d hd
  generalize spell d=x at hsp ⊢
  obtain⟨y⟩:=x
  rcases Nat.eq_zero_or_pos y.size with q |q
  ·exact absurd (by rw[Array.eq_empty_of_size_eq_zero q]) hsp
  ·exact q
 refine law_c hF hDl PL hdep hfr hnd st₄ fun i s₅ hi hR st₅=> ?_
 refine law_d hDl PL P2 hdep hu hnd hfresh hi hR st₅ fun kp du j s₆ S2 hLW2 hne2 fkp fdu st₆=> ?_
 refine law_e hDl PL hne2 st₆ fun s₇ st₇=> ?_
 have S0:SA L a sx dx []:=⟨S.L9,(fun x hx=>by cases hx),S.La,S.Lx,(fun x hx=>by cases hx),(fun x hx=>by cases hx),(fun x hx=>by cases hx),S.va⟩
 have hf2:∀b∈W2 L kp du a,s₁.heap.get? b=none:=fun b hb=>by
  simp only[List.mem_cons]at hb
  rcases hb with q |q |q |q
  ·rw[q];exact hLn
  ·rw[q];exact fkp
  ·rw[q];exact fdu
  ·exact hfresh b (.tail _ (.tail _ (.tail _ (.tail _ (.tail _ q)))))
 refine law_f (S0:=S0) hDl P2 hdep hu hf2 st₇ fun ov s₈ st₈=> ?_
 refine law_g hF hDl P2 hdep hfr hu st₈ fun s₉ st₉=> ?_
 have h16:lawS 16=lawS 16:=rfl
 conv at h16=>rhs;whnf
 rw[h16]
 refine wpAny_execs_cons (Vh (c:=(cA w g callerA s₁ L a (XL (Yn ns)) sx dx hl [] (CsD (Yn ns) nv sv rd hl rw rf kp du ov) [L] j [] S0 (.head _) Zt hh).wr (ρ4 nv sv a rd rw rf sx kp du ov)) (o:=.ret (.bool true)) (Xh (ZW (p:=kvPV (Rk (Yn ns) (Yn ns).length)) (q:=kvPV (Rk (Yn ns) (Yn ns).length)) (YB (Xa rfl rfl rfl rfl) fun s st=>st.2.2.cs (kvPV (Rk (Yn ns) (Yn ns).length),.ref rw) (by repeat constructor)) (YB (Xa rfl rfl rfl rfl) fun s st=>st.2.2.cs (kvPV (Rk (Yn ns) (Yn ns).length),ov) (.head _)) (cmp_eq_same P2.fr (Nat.succ_le_succ (Nat.le_trans (tup_dpt (Rk (Yn ns) (Yn ns).length)) (by decide))) hu) rfl)) st₉ fun f s' o₉ k₉=> ?_)
 obtain⟨v,rfl,hv⟩:=o₉
 rw[Rep]at hv
 have X₉:LF s₁ w.params a (XL (Yn ns)) sx dx hl (CsD (Yn ns) nv sv rd hl rw rf kp du ov) [L] j [] s₉:=st₉.2.2
 have k₉':KpF false [L] s₉ s':=Yt (YH w.params) (.head _) k₉
 have X':=lf_fr S0 (.head _) Zt X₉ k₉'
 refine⟨hv,law_old B hLn X'.tr fun b hb=> ?_,?_,?_⟩
 ·rcases hb with rfl |rfl |rfl
  ·exact⟨T394,X'.t394⟩
  ·obtain⟨ps,e,_⟩:=X'.t425
   exact⟨T425,ps,e⟩
  ·obtain⟨ps,e,_⟩:=X'.t435
   exact⟨T435,ps,e⟩
 ·obtain⟨h',tk,e,_⟩:=X'.tr
  rw[e]
 ·obtain⟨h',tk,e,_⟩:=X'.tr
  have:s'.gens=#[]:=by rw[e];exact hgens
  rw[this]
  intro y hy
  simp at hy
noncomputable def sgC(n:Nat):List Nat:=[115,83,383,119826,116,84,119827,64262,223,Jk.getD (n%27) 0,34,92,32,besN.getD (n%3) 0,barN.getD (n%5) 0,9]
noncomputable def mnC(n:Nat):List (List Nat):=[[115],[115],[115],[115],[116],[116],[116],[115,116],[115,115],[],[34],[92],[32],[besN.getD (n%3) 0],[barN.getD (n%5) 0],[9]]
theorem sgL_eq(n:Nat):sgL n=(sgC n).map one:=by kernel_rfl
theorem mnL_eq(n:Nat):mnL n=(mnC n).map fun l=>⟨l.toArray⟩:=by kernel_rfl
noncomputable def sg(n k:Nat):Nat:=(sgC n).getD k 0
noncomputable def mn(n k:Nat):List Nat:=(mnC n).getD k []
theorem sgAt_eq{n k:Nat}(hk:k<16):sgAt n k=one (sg n k):=by
 unfold sgAt sg
 rw[sgL_eq,List.getD_eq_getElem?_getD,List.getD_eq_getElem?_getD,List.getElem?_map,List.getElem?_eq_getElem (show k<(sgC n).length from hk)]
 rfl
theorem mnAt_eq{n k:Nat}(hk:k<16):mnAt n k=⟨(mn n k).toArray⟩:=by
 unfold mnAt mn
 rw[mnL_eq,List.getD_eq_getElem?_getD,List.getD_eq_getElem?_getD,List.getElem?_map,List.getElem?_eq_getElem (show k<(mnC n).length from hk)]
 rfl
noncomputable def pr1(c:Nat):List Nat:=if b1 c then[]else(b3 c).cps.toList
noncomputable def KF(m:Nat):Bool:=(match Unicode.upperOf m with | [u]=>Unicode.lowerOf u==[m]&&u !=0x3A3 |_=>false)&&Unicode.lowerOf m==[m]&&m !=0x3A3
noncomputable def chk(c:Nat)(l:List Nat)(k tab:Nat):Bool:=
 (pr1 c==l)&&l.all (fun m=>bar1 m==(if k==14 then(tab:Int)else 0))&&l.all (fun m=>nmP m==(k==15))&& !vlP c&&(wsC c==(k==12||k==15))&&decide (c<1114112)&&l.all (fun m=>decide (m<1114112))&&
   ((c==34)==(k==10))&&((c==92)==(k==11))&&(tspP c==(k==10||k==11||k==12))&&(k==14||l.all KF)&&((c==9)==(k==15))&&(l.length≤2)
theorem chk9:∀j:Nat,j<27→chk (Jk.getD j 0) [] 9 0=true:=by decide +kernel
theorem chk13:∀j:Nat,j<3→chk (besN.getD j 0) [besN.getD j 0] 13 0=true:=by decide +kernel
theorem chk14:∀j:Nat,j<5→chk (barN.getD j 0) [barN.getD j 0] 14 (tabL.getD j 0)=true:=by decide +kernel
theorem chk_all:∀(n k:Nat),k<16→chk (sg n k) (mn n k) k (tabL.getD (n%5) 0)=true
 |n,0,_=>by kernel_rfl
 |n,1,_=>by kernel_rfl
 |n,2,_=>by kernel_rfl
 |n,3,_=>by kernel_rfl
 |n,4,_=>by kernel_rfl
 |n,5,_=>by kernel_rfl
 |n,6,_=>by kernel_rfl
 |n,7,_=>by kernel_rfl
 |n,8,_=>by kernel_rfl
 |n,9,_=>chk9 (n%27) (Nat.mod_lt _ (by decide))
 |n,10,_=>by kernel_rfl
 |n,11,_=>by kernel_rfl
 |n,12,_=>by kernel_rfl
 |n,13,_=>chk13 (n%3) (Nat.mod_lt _ (by decide))
 |n,14,_=>chk14 (n%5) (Nat.mod_lt _ (by decide))
 |n,15,_=>by kernel_rfl
 |n,k+16,h=>absurd h (Nat.not_lt.mpr (Nat.le_add_left 16 k))
structure Chk(c:Nat)(l:List Nat)(k tab:Nat):Prop where
 pr:pr1 c=l
 bar:∀m∈l,bar1 m=if k=14 then(tab:Int)else 0
 nm:∀m∈l,nmP m=decide (k=15)
 vl:vlP c=false
 ws:wsC c=(decide (k=12)||decide (k=15))
 cl:c<1114112
 ll:∀m∈l,m<1114112
 q:c=34↔k=10
 b:c=92↔k=11
 tsp:tspP c=(decide (k=10)||decide (k=11)||decide (k=12))
 cs:k≠14→∀m∈l,KF m=true
 tab:c=9↔k=15
 len:l.length≤2
theorem ZP(a b:Nat):(a==b)=decide (a=b):=by
 by_cases h:a=b
 ·rw[h];simp
 ·rw[decide_eq_false h];simpa using h
theorem KA{a b x y:Nat}(h:((a==b)==(x==y))=true):a=b↔x=y:=by
 have e:=eq_of_beq h
 rw[ZP,ZP]at e
 constructor
 ·intro q;rw[decide_eq_true q]at e;exact of_decide_eq_true e.symm
 ·intro q;rw[decide_eq_true q]at e;exact of_decide_eq_true e
theorem chk_get{c:Nat}{l:List Nat}{k tab:Nat}(h:chk c l k tab=true):Chk c l k tab:=by
 unfold chk at h
 simp only[Bool.and_eq_true]at h
 obtain⟨⟨⟨⟨⟨⟨⟨⟨⟨⟨⟨⟨h1,h2⟩,h3⟩,h4⟩,h5⟩,h6⟩,h7⟩,h8⟩,h9⟩,h10⟩,h11⟩,h12⟩,h13⟩:=h
 refine⟨eq_of_beq h1,fun m hm=> ?_,fun m hm=> ?_,by simpa using h4,?_,of_decide_eq_true h6,fun m hm=>of_decide_eq_true (List.all_eq_true.mp h7 m hm),KA h8,KA h9,?_,fun hk m hm=> ?_,KA h12,of_decide_eq_true h13⟩
 ·have e:=eq_of_beq (List.all_eq_true.mp h2 m hm)
  rw[e,ZP]
  by_cases q:k=14
  ·simp[q]
  ·simp[q]
 ·have e:=eq_of_beq (List.all_eq_true.mp h3 m hm)
  rw[e,ZP]
 ·have e:=eq_of_beq h5
  rw[e,ZP,ZP]
 ·have e:=eq_of_beq h10
  rw[e,ZP,ZP,ZP]
 ·rw[Bool.or_eq_true]at h11
  rcases h11 with q |q
  ·exact absurd (by simpa using q) hk
  ·exact List.all_eq_true.mp q m hm
theorem chkN(n k:Nat)(hk:k<16):Chk (sg n k) (mn n k) k (tabL.getD (n%5) 0):=chk_get (chk_all n k hk)
noncomputable def spK(n:Nat)(K:List Nat):Str:=cat (K.map (sgAt n))
noncomputable def mnK(n:Nat)(K:List Nat):Str:=cat (K.map (mnAt n))
theorem Yb{d k:Nat}(h:k∈Xg d):k<16:=by
 rcases mem3 h with rfl |rfl |rfl<;>exact Nat.mod_lt _ (by decide)
theorem Ze(l:List Str):(cat l).cps.toList=l.flatMap fun x=>x.cps.toList:=by unfold cat;rw[List.toList_toArray]
theorem Js{x y:Str}(h:x.cps.toList=y.cps.toList):x=y:=by
 obtain⟨⟨x⟩⟩:=x
 obtain⟨⟨y⟩⟩:=y
 have h:x=y:=h
 rw[h]
theorem KM{n:Nat}:∀{K:List Nat},(∀k∈K,k<16)→(spK n K).cps.toList=K.map (sg n)
 | [],_=>rfl
 |k::K,h=>by
  have ih:=KM (n:=n) (K:=K) fun j hj=>h j (List.mem_cons_of_mem _ hj)
  unfold spK at ih ⊢
  rw[Ze]at ih ⊢
  rw[List.map_cons,List.flatMap_cons,ih,sgAt_eq (h k (List.mem_cons_self ..))]
  rfl
theorem Zn{n:Nat}:∀{K:List Nat},(∀k∈K,k<16)→(mnK n K).cps.toList=K.flatMap (mn n)
 | [],_=>rfl
 |k::K,h=>by
  have ih:=Zn (n:=n) (K:=K) fun j hj=>h j (List.mem_cons_of_mem _ hj)
  unfold mnK at ih ⊢
  rw[Ze]at ih ⊢
  rw[List.map_cons,List.flatMap_cons,ih,mnAt_eq (h k (List.mem_cons_self ..)),List.flatMap_cons]
theorem prep_list(x:Str):(prep x).cps.toList=x.cps.toList.flatMap pr1:=by
 unfold prep
 rw[Ze]
 generalize x.cps.toList=l
 induction l with
 |nil=>rfl
 |cons a l ih=>
  rw[List.flatMap_cons,←ih]
  unfold pr1
  cases hb:b1 a with
  |true=>rw[List.filter_cons_of_neg (by simp[hb])];simp
  |false=>rw[List.filter_cons_of_pos (by simp[hb]),List.map_cons,List.flatMap_cons];simp
theorem prep_spK{n:Nat}{K:List Nat}(h:∀k∈K,k<16):prep (spK n K)=mnK n K:=by
 apply Js
 rw[prep_list,KM h,Zn h]
 induction K with
 |nil=>rfl
 |cons k K ih=>
  rw[List.map_cons,List.flatMap_cons,List.flatMap_cons,ih fun j hj=>h j (List.mem_cons_of_mem _ hj),(chkN n k (h k (List.mem_cons_self ..))).pr]
theorem barL_skip{l r:List Nat}(h:∀m∈l,bar1 m=0):barL (l++r)=barL r:=by
 induction l with
 |nil=>rfl
 |cons a l ih=>
  rw[List.cons_append,barL,if_pos (h a (List.mem_cons_self ..)),ih fun m hm=>h m (List.mem_cons_of_mem _ hm)]
theorem tab_pos(n:Nat):((tabL.getD (n%5) 0:Nat):Int)≠0:=by
 have h:∀j:Nat,j<5→((tabL.getD j 0:Nat):Int)≠0:=by decide
 exact h _ (Nat.mod_lt _ (by decide))
theorem barL_K{n:Nat}{K:List Nat}(h:∀k∈K,k<16):barL (K.flatMap (mn n))=if 14∈K then((tabL.getD (n%5) 0:Nat):Int)else 0:=by
 induction K with
 |nil=>rfl
 |cons k K ih=>
  have C:=chkN n k (h k (List.mem_cons_self ..))
  have ih:=ih fun j hj=>h j (List.mem_cons_of_mem _ hj)
  rw[List.flatMap_cons]
  by_cases q:k=14
  ·subst q
   rw[if_pos (List.mem_cons_self ..)]
   have e:mn n 14=[barN.getD (n%5) 0]:=rfl
   have hb:=C.bar (barN.getD (n%5) 0) (by rw[e];exact List.mem_singleton.mpr rfl)
   rw[if_pos rfl]at hb
   rw[e,List.singleton_append,barL,hb,if_neg (tab_pos n)]
  ·rw[barL_skip fun m hm=>by rw[C.bar m hm,if_neg q],ih]
   have e:(14∈k::K)↔14∈K:=by
    rw[List.mem_cons]
    exact⟨fun z=>z.elim (fun z=>absurd z.symm q) id,.inr⟩
   by_cases z:14∈K
   ·rw[if_pos z,if_pos (e.mpr z)]
   ·rw[if_neg z,if_neg fun y=>z (e.mp y)]
theorem nm_K{n:Nat}{K:List Nat}(h:∀k∈K,k<16):(K.flatMap (mn n)).any nmP=decide (15∈K):=by
 induction K with
 |nil=>rfl
 |cons k K ih=>
  have C:=chkN n k (h k (List.mem_cons_self ..))
  have ih:=ih fun j hj=>h j (List.mem_cons_of_mem _ hj)
  rw[List.flatMap_cons,List.any_append,ih]
  by_cases q:k=15
  ·subst q
   have e:mn n 15=[9]:=rfl
   rw[e,decide_eq_true (List.mem_cons_self ..)]
   rfl
  ·have e1:(mn n k).any nmP=false:=by
    rw[List.any_eq_false]
    intro m hm
    rw[C.nm m hm,decide_eq_false q];decide
   rw[e1,Bool.false_or]
   by_cases z:15∈K
   ·rw[decide_eq_true z,decide_eq_true (List.mem_cons_of_mem _ z)]
   ·rw[decide_eq_false z,decide_eq_false]
    rw[List.mem_cons]
    rintro(y |y)
    ·exact q y.symm
    ·exact z y
theorem VX(d:Nat):cat (XR d)=mnK (d/4096) (Xg d):=rfl
theorem Jw(d:Nat):prep (spell d)=cat (XR d):=prep_spK fun _=>Yb
theorem barD_eq(d:Nat):barD d=if 14∈Xg d then(Jr d:Int)else 0:=by
 unfold barD
 rw[Jw,VX,Zn fun _=>Yb,barL_K fun _=>Yb]
 rfl
theorem nm_ok(d:Nat):NmOk d:=by
 refine⟨?_,fun _ _=>Jw d⟩
 unfold bOf
 rw[barD_eq,Jw,VX,Zn fun _=>Yb,nm_K fun _=>Yb]
 by_cases h:14∈Xg d
 ·rw[if_pos h,if_neg (Jq d),if_pos h]
 ·rw[if_neg h,if_pos rfl,if_neg h]
  by_cases h2:15∈Xg d
  ·rw[decide_eq_true h2,if_pos rfl,if_pos h2]
  ·rw[decide_eq_false h2,if_neg Bool.false_ne_true,if_neg h2]
theorem Zc(d:Nat):(spell d).cps.toList=(Xg d).map (sg (d/4096)):=KM fun _=>Yb
theorem spell_ne(d:Nat):spell d≠⟨#[]⟩:=fun e=>by
 have:=congrArg (fun x:Str=>x.cps.toList) e
 rw[Zc]at this
 cases this
theorem spell_vl(d:Nat):(spell d).cps.toList.any vlP=false:=by
 rw[Zc,List.any_eq_false]
 intro m hm
 obtain⟨k,hk,rfl⟩:=List.mem_map.mp hm
 rw[(chkN (d/4096) k (Yb hk)).vl];decide
theorem spell_fit(d:Nat):PyData.strOk (spell d)=true:=by
 unfold PyData.strOk
 rw[←Array.all_toList,Zc,List.all_eq_true]
 intro m hm
 obtain⟨k,hk,rfl⟩:=List.mem_map.mp hm
 exact decide_eq_true (chkN (d/4096) k (Yb hk)).cl
theorem has_one(x:Str)(c:Nat):Txt.contains x (one c)=decide (c∈x.cps.toList):=StrLaws.found_one x c
theorem app_one_toArray(t:Str)(c:Nat)(l:List Nat):t++⟨(c::l).toArray⟩=(t++one c)++⟨l.toArray⟩:=by
 apply Js
 rw[Str.cps_append,Str.cps_append,Str.cps_append]
 simp[one]
theorem escL_cons(c:Nat)(l:List Nat):escL (c::l)=(if c=34 then[92,34]else if c=92 then[92,92]else[c])++escL l:=by
 unfold escL subst
 rw[List.flatMap_cons,List.flatMap_append]
 congr 1
 by_cases h:c=92
 ·subst h;rfl
 ·rw[if_neg h]
  by_cases h2:c=34
  ·subst h2;rfl
  ·simp[h2]
theorem sto_quo(r:List Nat):∀(l:List Nat) (t:Str),STo (· ==34) (escL l++34::r) t (t++⟨l.toArray⟩) (r)
 | [],t=>by
   rw[show t++(⟨([]:List Nat).toArray⟩:Str)=t from Kr t]
   exact .stop rfl
 |c::l,t=>by
  rw[escL_cons,app_one_toArray]
  have ih:=sto_quo r l (t++one c)
  by_cases h:c=34
  ·subst h;exact .esc ih
  ·rw[if_neg h]
   by_cases h2:c=92
   ·subst h2;exact .esc ih
   ·rw[if_neg h2]
    exact .lit (by simpa using h) h2 ih
theorem sto_lit{sep:Nat}(hs:wsC sep=true)(r:List Nat):∀(l:List Nat) (t:Str),(∀c∈l,wsC c=false∧c≠92)→STo wsC (l++sep::r) t (t++⟨l.toArray⟩) r
 | [],t,_=>by
   rw[show t++(⟨([]:List Nat).toArray⟩:Str)=t from Kr t]
   exact .stop hs
 |c::l,t,h=>by
  rw[app_one_toArray]
  have hc:=h c (List.mem_cons_self ..)
  exact .lit hc.1 hc.2 (sto_lit hs r l (t++one c) fun x hx=>h x (List.mem_cons_of_mem _ hx))
theorem Vk{r r':List Nat}{t:Str}(h:TTo r t r'):∀ws:List Nat,(∀c∈ws,wsC c=true)→TTo (ws++r) t r'
 | [],_=>h
 |c::ws,hw=>.ws (hw c (List.mem_cons_self ..)) (Vk h ws fun x hx=>hw x (List.mem_cons_of_mem _ hx))
theorem sl_one(x:Str):(Str.sl x (some 1) none).cps.toList=x.cps.toList.drop 1:=by
 unfold Str.sl sl
 rw[List.toList_toArray]
 simp only[Option.getD_some,Option.getD_none]
 exact List.take_of_length_le (by rw[List.length_drop];lia)
theorem sep_ws(d:Nat):wsC (Kt d)=true:=by
 unfold Kt
 split<;>decide +kernel
theorem fmt_drop(v:Str)(q:Nat):(fmt v q).cps.toList.drop 1=if quoted v q then 34::(escL v.cps.toList++[34])else v.cps.toList:=by
 unfold fmt
 split
 ·rw[Ze]
  simp only[List.flatMap_cons,List.flatMap_nil]
  rw[show(Str.ofString "=\"").cps.toList=[61,34] by decide +kernel,show(Str.ofString "\"").cps.toList=[34] by decide +kernel]
  simp[escS]
 ·rw[Ze]
  simp only[List.flatMap_cons,List.flatMap_nil]
  rw[show(Str.ofString "=").cps.toList=[61] by decide +kernel]
  simp
theorem page_at{D:List Nat}{k d:Nat}(h:D[k]? =some d):(Ys ((Zof D).drop k)).cps.toList=(fmt (spell d) (Yu (d,spell d))).cps.toList.drop 1++Kt d::(Ys ((Zof D).drop (k+1))).cps.toList:=by
 have e:(Zof D).drop k=(d,spell d)::(Zof D).drop (k+1):=by
  obtain⟨hk,rfl⟩:=List.getElem?_eq_some_iff.mp h
  have hk':k<(Zof D).length:=by unfold Zof;rw[List.length_map];exact hk
  rw[List.drop_eq_getElem_cons hk']
  exact congrArg (· ::(Zof D).drop (k+1)) (List.getElem_map (fun d=>(d,spell d)) (h:=hk'))
 rw[e]
 unfold Ys
 rw[List.map_cons,Ze,List.flatMap_cons,←Ze]
 show(Ug (d,spell d)).cps.toList++_=_
 unfold Ug
 rw[Str.cps_append,Array.toList_append,sl_one]
 simp[one]
theorem marks_of{d:Nat}(h:quoted (spell d) (Yu (d,spell d))=false):∀k∈Xg d,k≠10∧k≠11∧k≠12∧k≠15:=by
 unfold quoted at h
 rw[Bool.or_eq_false_iff]at h
 intro k hk
 have C:=chkN (d/4096) k (Yb hk)
 have hm:sg (d/4096) k∈(spell d).cps.toList:=by rw[Zc];exact List.mem_map_of_mem hk
 have h1:=List.any_eq_false.mp h.2 _ hm
 rw[C.tsp]at h1
 have h2:¬9∈(spell d).cps.toList:=fun m=>by
  have e:Txt.contains (spell d) (Str.ofString "\t")=true:=by
   rw[show Str.ofString "\t"=one 9 by decide +kernel,has_one,decide_eq_true m]
  have h0:Yu (d,spell d)=0:=by simpa using h.1
  unfold Yu at h0
  rw[e]at h0
  simp at h0
 have h3:k≠15:=fun q=>h2 (by have:=C.tab.mpr q;rwa [this]at hm)
 refine⟨fun q=>h1 (by simp[q]),fun q=>h1 (by simp[q]),fun q=>h1 (by simp[q]),h3⟩
theorem plain_tok{D:List Nat}:∀k d r,D[k]? =some d→Rst D k r→∃r',TTo r (spell d) r'∧Rst D (k+1) r':=by
 rintro k d r h ⟨ws,hws,rfl⟩
 rw[page_at h,fmt_drop]
 by_cases hq:quoted (spell d) (Yu (d,spell d))=true
 ·rw[if_pos hq]
  refine⟨Kt d::(Ys ((Zof D).drop (k+1))).cps.toList,Vk ?_ ws hws,[Kt d],fun c hc=>by rw[List.mem_singleton.mp hc];exact sep_ws d,rfl⟩
  have:=sto_quo (Kt d::(Ys ((Zof D).drop (k+1))).cps.toList) (spell d).cps.toList ⟨#[]⟩
  rw[show(⟨#[]⟩:Str)++⟨(spell d).cps.toList.toArray⟩=spell d by apply Js;rw[Str.cps_append];simp]at this
  rw[List.cons_append,List.append_assoc]
  exact .quo this
 ·rw[if_neg hq]
  have hm:=marks_of (by simpa using hq)
  refine⟨(Ys ((Zof D).drop (k+1))).cps.toList,Vk ?_ ws hws,[],(fun c hc=>nomatch hc),rfl⟩
  have hall:∀c∈(spell d).cps.toList,wsC c=false∧c≠34∧c≠92:=by
   intro c hc
   rw[Zc]at hc
   obtain⟨j,hj,rfl⟩:=List.mem_map.mp hc
   have C:=chkN (d/4096) j (Yb hj)
   obtain⟨h1,h2,h3,h4⟩:=hm j hj
   refine⟨?_,fun q=>h1 (C.q.mp q),fun q=>h2 (C.b.mp q)⟩
   rw[C.ws,decide_eq_false h3,decide_eq_false h4];rfl
  obtain⟨c,l,hcl⟩:∃c l,(spell d).cps.toList=c::l:=⟨_,_,Zc d⟩
  have he:spell d=one c++⟨l.toArray⟩:=by apply Js;rw[hcl,Str.cps_append];simp[one]
  rw[hcl]at hall ⊢
  have hc:=hall c (List.mem_cons_self ..)
  rw[List.cons_append,he]
  exact .lit hc.1 hc.2.1 hc.2.2 (sto_lit (sep_ws d) _ l (one c) fun x hx=>let q:=hall x (List.mem_cons_of_mem _ hx);⟨q.1,q.2.2⟩)
theorem plain_fin{D:List Nat}:∀r,Rst D D.length r→TTo r ⟨#[]⟩ []:=by
 rintro r ⟨ws,hws,rfl⟩
 have e:(Zof D).drop D.length=[]:=List.drop_of_length_le (by unfold Zof;rw[List.length_map];exact Nat.le_refl _)
 rw[e]
 exact Vk (r:=[]) .fin ws hws
theorem plain_D(D:List Nat):Plain D:=⟨fun d _=>nm_ok d,fun d _=>spell_ne d,fun d _=>spell_vl d,plain_tok,plain_fin⟩
theorem Uf{x:Str}{f:Nat→Nat→List Nat}{g:Nat→List Nat}(h:∀i c,x.cps.toList[i]? =some c→f i c=g c):(placed x f).toList=x.cps.toList.flatMap g:=by
 have e:(x.cps.toList.mapIdx fun i c=>(f i c).toArray)=x.cps.toList.map fun c=>(g c).toArray:=by
  apply List.ext_getElem?
  intro i
  rw[List.getElem?_mapIdx,List.getElem?_map]
  cases hc:x.cps.toList[i]? with
  |none=>rfl
  |some c=>simp[h i c hc]
 unfold placed
 rw[Array.toList_flatten,Array.toList_mapIdx,e,List.map_map,List.flatMap_def]
 rfl
noncomputable def upc(m:Nat):Nat:=(Unicode.upperOf m).headD 0
theorem JY{m:Nat}(h:KF m=true):Unicode.upperOf m=[upc m]∧Unicode.lowerOf (upc m)=[m]∧upc m≠0x3A3∧Unicode.lowerOf m=[m]∧m≠0x3A3:=by
 unfold KF at h
 rw[Bool.and_eq_true,Bool.and_eq_true]at h
 obtain⟨⟨h1,h2⟩,h3⟩:=h
 unfold upc
 cases hu:Unicode.upperOf m with
 |nil=>rw[hu]at h1;cases h1
 |cons u r=>
  cases r with
  |cons _ _=>rw[hu]at h1;cases h1
  |nil=>
   rw[hu]at h1
   have h1:(Unicode.lowerOf u==[m]&&u !=0x3A3)=true:=h1
   rw[Bool.and_eq_true]at h1
   exact⟨rfl,eq_of_beq h1.1,by simpa using h1.2,eq_of_beq h2,by simpa using h3⟩
theorem lower_at{x:Str}{i c:Nat}(hc:x.cps.toList[i]? =some c)(h:c≠0x3A3):Unicode.lowerAt x.cps i=Unicode.lowerOf c:=by
 unfold Unicode.lowerAt
 rw[Array.getElem?_toList]at hc
 rw[hc]
 have:(c==0x3A3)=false:=by simpa using h
 simp[this]
theorem UW{l:List Nat}{f:Nat→List Nat}{g:Nat→Nat}(h:∀m∈l,f m=[g m]):l.flatMap f=l.map g:=by
 induction l with
 |nil=>rfl
 |cons a l ih=>rw[List.flatMap_cons,h a (List.mem_cons_self ..),ih fun m hm=>h m (List.mem_cons_of_mem _ hm)];rfl
theorem lower_id{x:Str}(h:∀m∈x.cps.toList,KF m=true):Txt.lower x=x:=by
 apply Js
 unfold Txt.lower
 rw[Uf (g:=Unicode.lowerOf) fun i c hc=>lower_at hc (JY (h c (List.mem_of_getElem? hc))).2.2.2.2]
 rw[UW (g:=id) fun m hm=>(JY (h m hm)).2.2.2.1,List.map_id]
theorem lower_upper{x:Str}(h:∀m∈x.cps.toList,KF m=true):Txt.lower (Txt.upper x)=x:=by
 have hu:(Txt.upper x).cps.toList=x.cps.toList.map upc:=by
  unfold Txt.upper
  rw[Uf (g:=Unicode.upperOf) fun _ _ _=>rfl,UW fun m hm=>(JY (h m hm)).1]
 apply Js
 unfold Txt.lower
 rw[Uf (g:=Unicode.lowerOf) fun i c hc=> ?_,hu,List.flatMap_map,UW (g:=id) fun m hm=>(JY (h m hm)).2.1,List.map_id]
 have hm:=List.mem_of_getElem? hc
 rw[hu]at hm
 obtain⟨m,hm',rfl⟩:=List.mem_map.mp hm
 exact lower_at hc (JY (h m hm')).2.2.1
theorem mnK_case{n:Nat}{K:List Nat}(h:∀k∈K,k<16)(h14:14∉K):∀m∈(mnK n K).cps.toList,KF m=true:=by
 rw[Zn h]
 intro m hm
 obtain⟨k,hk,hm⟩:=List.mem_flatMap.mp hm
 exact(chkN n k (h k hk)).cs (fun q=>h14 (q▸hk)) m hm
theorem mnK_fit{n:Nat}{K:List Nat}(h:∀k∈K,k<16):PyData.strOk (mnK n K)=true:=by
 unfold PyData.strOk
 rw[←Array.all_toList,Zn h,List.all_eq_true]
 intro m hm
 obtain⟨k,hk,hm⟩:=List.mem_flatMap.mp hm
 exact decide_eq_true ((chkN n k (h k hk)).ll m hm)
theorem mnK_len{n:Nat}:∀{K:List Nat},(∀k∈K,k<16)→(K.flatMap (mn n)).length≤2*K.length
 | [],_=>Nat.zero_le _
 |k::K,h=>by
  rw[List.flatMap_cons,List.length_append,List.length_cons,Nat.mul_succ,Nat.add_comm]
  exact Nat.add_le_add (mnK_len fun j hj=>h j (List.mem_cons_of_mem _ hj)) (chkN n k (h k (List.mem_cons_self ..))).len
theorem hk_mem{D:List Nat}{k:Nat}{p:Str×Str}(h:p∈Hk D k):∃d∈D,p=(mnK (d/4096) (Xg d),spell d)∧14∉Xg d:=by
 unfold Hk at h
 obtain⟨d,hd,rfl⟩:=List.mem_map.mp h
 rw[List.mem_filter]at hd
 refine⟨d,List.mem_of_mem_take hd.1,by unfold pwd;rw[Jw,VX],fun h14=> ?_⟩
 have hb:bOf d=0:=by simpa using hd.2
 unfold bOf at hb
 rw[barD_eq,if_pos h14,if_neg (Jq d)]at hb
 exact Jq d hb
theorem insR_mem{R:List (Str×Str)}{q p:Str×Str}(h:p∈insR R q):p=q∨p∈R:=by
 unfold insR at h
 rcases List.mem_append.mp h with h |h
 ·exact .inr (List.mem_of_mem_take h)
 ·rcases List.mem_cons.mp h with h |h
  ·exact .inl h
  ·exact .inr (List.mem_of_mem_drop h)
theorem fold_mem{l:List (Str×Str)}{p:Str×Str}:∀{R:List (Str×Str)},p∈l.foldl insR R→p∈l∨p∈R:=by
 induction l with
 |nil=>intro R h;exact .inr h
 |cons q l ih=>
  intro R h
  rcases ih h with h |h
  ·exact .inl (List.mem_cons_of_mem _ h)
  ·rcases insR_mem h with h |h
   ·exact .inl (h▸List.mem_cons_self ..)
   ·exact .inr h
theorem VT{D:List Nat}{k:Nat}{p:Str×Str}(h:p∈Rk D k):p∈Hk D k:=(fold_mem h).elim id fun h=>by cases h
theorem fit_words{l:List (Str×Str)}(h:∀p∈l,PyData.strOk p.2=true):ZV (l.map fun p=>.str p.2)=true:=KP fun p hp=>by
 obtain⟨q,hq,rfl⟩:=List.mem_map.mp hp
 exact h q hq
theorem JU{D:List Nat}{k:Nat}{p:Str×Str}(h:p∈Hk D k):PyData.strOk p.1=true∧PyData.strOk p.2=true∧p.1.length≤1000∧Txt.lower p.1=p.1:=by
 obtain⟨d,_,rfl,h14⟩:=hk_mem h
 refine⟨mnK_fit fun _=>Yb,spell_fit d,?_,lower_id (mnK_case (fun _=>Yb) h14)⟩
 have h1:=mnK_len (n:=d/4096) (K:=Xg d) fun _=>Yb
 rw[←Zn fun _=>Yb,Array.length_toList]at h1
 exact Nat.le_trans h1 (show 2*3≤1000 by decide)
theorem tup_fit{l:List (Str×Str)}(h:∀p∈l,PyData.strOk p.1=true∧PyData.strOk p.2=true):ZV (Xf l)=true:=KP fun p hp=>by
 obtain⟨q,hq,rfl⟩:=List.mem_map.mp hp
 exact Bool.and_eq_true_iff.mpr ⟨(h q hq).1,Bool.and_eq_true_iff.mpr ⟨(h q hq).2,rfl⟩⟩
theorem wd_fit(D:List Nat):ZV (wdPV D)=true:=KP fun p hp=>by
 obtain⟨d,_,rfl⟩:=List.mem_map.mp hp
 exact spell_fit d
theorem due_fit{D:List Nat}{k d n:Nat}:fitP (dueR (Hk D k) (Rk D k) d n)=true:=by
 unfold dueR
 split
 ·rfl
 ·refine Bool.and_eq_true_iff.mpr ⟨fit_words fun p hp=>(JU (VT ((List.mem_filter.mp hp).1))).2.1,Bool.and_eq_true_iff.mpr ⟨?_,rfl⟩⟩
  split
  ·rfl
  ·exact fit_words fun p hp=>(JU ((List.mem_filter.mp hp).1)).2.1
theorem dpt_words(l:List (Str×Str)):dpts (l.map fun p=>.str p.2)≤0:=UH fun p hp=>by
 obtain⟨q,_,rfl⟩:=List.mem_map.mp hp
 exact Nat.le_refl _
theorem due_dpt{H R:List (Str×Str)}{d n:Nat}:dpt (dueR H R d n)≤64:=by
 unfold dueR
 split
 ·exact Nat.zero_le _
 ·refine Nat.succ_le_succ (Nat.max_le.mpr ⟨Nat.succ_le_succ (Nat.le_trans (dpt_words _) (Nat.zero_le 62)),Nat.max_le.mpr ⟨?_,Nat.zero_le _⟩⟩)
  split
  ·exact Nat.zero_le _
  ·exact Nat.succ_le_succ (Nat.le_trans (dpt_words _) (Nat.zero_le 62))
theorem JZ{go:Nat→Bool}{n:Nat}(mono:∀i j,i≤j→j<n→go j=true→go i=true):∀(fuel lo hi:Nat),lo≤hi→hi≤n→hi<lo+fuel→(∀i,i<lo→go i=true)→(∀i,hi≤i→i<n→go i=false)→
 bis go fuel lo hi≤n∧(∀i,i<bis go fuel lo hi→go i=true)∧(∀i,bis go fuel lo hi≤i→i<n→go i=false)
 |0,lo,hi,h1,h2,h3,h4,h5=>absurd h1 (Nat.not_le_of_lt h3)
 |f+1,lo,hi,h1,h2,h3,h4,h5=>by
  rw[bis]
  by_cases q:lo<hi
  ·rw[if_pos q]
   obtain⟨m1,m2⟩:=Vw q
   revert m1 m2
   generalize (lo+hi)/2=m
   intro m1 m2
   have hm:=Nat.lt_of_lt_of_le m2 h2
   cases hg:go m with
   |true=>exact JZ mono f _ _ m2 h2 (Nat.lt_of_lt_of_le h3 (Nat.le_trans (Nat.le_of_eq (Nat.succ_add_eq_add_succ lo f).symm) (Nat.add_le_add_right (Nat.succ_le_succ m1) f))) (fun i hi'=>mono i m (Nat.le_of_lt_succ hi') hm hg) h5
   |false=>
    refine JZ mono f _ _ m1 (Nat.le_of_lt hm) (Nat.lt_of_lt_of_le m2 (Nat.le_of_lt_succ h3)) h4 fun i h6 h7=> ?_
    cases hgi:go i with
    |false=>rfl
    |true=>rw[mono _ _ h6 h7 hgi]at hg;cases hg
  ·rw[if_neg q]
   obtain rfl:=Nat.le_antisymm h1 (Nat.le_of_not_lt q)
   exact⟨h2,h4,h5⟩
theorem UB{x y:Str}(h:ltS x y=true):ltS y x=false:=(VZ fun i=>if i=0 then x else y).asy 0 1 h
theorem Vr{x y z:Str}(h1:ltS x y=false)(h2:ltS y z=false):ltS x z=false:=(VZ fun i=>if i=0 then x else if i=1 then y else z).neg 0 1 2 h1 h2
theorem ltS_irr(x:Str):ltS x x=false:=by
 cases h:ltS x x with
 |false=>rfl
 |true=>have:=UB h;rw[h]at this;cases this
noncomputable def SoR(R:List (Str×Str)):Prop:=R.Pairwise fun p q=>ltS q.1 p.1=false
theorem Wr{R:List (Str×Str)}(h:SoR R){i j:Nat}(hij:i≤j){p q:Str×Str}(hp:R[i]? =some p)(hq:R[j]? =some q):ltS q.1 p.1=false:=by
 rcases Nat.lt_or_ge i j with l |l
 ·obtain⟨hi,rfl⟩:=List.getElem?_eq_some_iff.mp hp
  obtain⟨hj,rfl⟩:=List.getElem?_eq_some_iff.mp hq
  exact List.pairwise_iff_getElem.mp h i j hi hj l
 ·obtain rfl:=Nat.le_antisymm hij l
  rw[hp]at hq;cases hq
  exact ltS_irr _
theorem ZI{R:List (Str×Str)}{i:Nat}{p:Str×Str}(hp:R[i]? =some p):(Xf R).getD i elt0= .tup [.str p.1,.str p.2]:=by
 unfold Xf
 rw[List.getD_eq_getElem?_getD,List.getElem?_map,hp]
 rfl
theorem Vj(R:List (Str×Str)):(Xf R).length=R.length:=List.length_map ..
theorem bisR_spec{R:List (Str×Str)}(h:SoR R)(x:Str):Zr fstS (Xf R) x≤R.length∧(∀(i:Nat) (p:Str×Str),R[i]? =some p→i<Zr fstS (Xf R) x→ltS x p.1=false)∧(∀(i:Nat) (p:Str×Str),R[i]? =some p→Zr fstS (Xf R) x≤i→ltS x p.1=true):=by
 have S:=JZ (go:=fun i=> !ltS x (fstS ((Xf R).getD i elt0))) (n:=R.length) (fun i j hij hj hg=> ?_) (R.length+1) 0 R.length (Nat.zero_le _) (Nat.le_refl _) (Nat.lt_of_lt_of_le (Nat.lt_succ_self _) (Nat.le_add_left _ _)) (fun i hi=>absurd hi (Nat.not_lt_zero i)) (fun i h1 h2=>absurd h2 (Nat.not_lt_of_ge h1))
 ·unfold Zr
  rw[Vj]
  refine⟨S.1,fun i p hp hi=> ?_,fun i p hp hi=> ?_⟩
  ·have:=S.2.1 i hi
   rw[ZI hp]at this
   exact(Bool.not_eq_true' _).mp this
  ·have:=S.2.2 i hi (List.getElem?_eq_some_iff.mp hp).1
   rw[ZI hp]at this
   exact(Bool.not_eq_false' _).mp this
 ·have hi:=Nat.lt_of_le_of_lt hij hj
  rw[ZI (List.getElem?_eq_getElem hj)]at hg
  rw[ZI (List.getElem?_eq_getElem hi)]
  exact(Bool.not_eq_true' _).mpr (Vr ((Bool.not_eq_true' _).mp hg) (Wr h hij (List.getElem?_eq_getElem hi) (List.getElem?_eq_getElem hj)))
noncomputable def insI(H:List (Str×Str))(J:List Nat)(i:Nat):List Nat:=J.take (Zr fstS (Xf (J.map fun j=>H.getD j default)) (H.getD i default).1)++i::J.drop (Zr fstS (Xf (J.map fun j=>H.getD j default)) (H.getD i default).1)
theorem insI_map(H:List (Str×Str))(J:List Nat)(i:Nat):(insI H J i).map (fun j=>H.getD j default)=insR (J.map fun j=>H.getD j default) (H.getD i default):=by
 unfold insI insR
 rw[List.map_append,List.map_take,List.map_cons,List.map_drop]
noncomputable def ltI(H:List (Str×Str))(i j:Nat):Bool:=ltS (H.getD i default).1 (H.getD j default).1
theorem insI_perm(H:List (Str×Str))(J:List Nat)(i:Nat):(insI H J i).Perm (i::J):=by
 unfold insI
 have:=(List.perm_middle (a:=i) (l₁:=J.take (Zr fstS (Xf (J.map fun j=>H.getD j default)) (H.getD i default).1)) (l₂:=J.drop (Zr fstS (Xf (J.map fun j=>H.getD j default)) (H.getD i default).1)))
 rwa [List.take_append_drop]at this
theorem so_of{H:List (Str×Str)}{J:List Nat}(h:J.Pairwise (bf (ltI H))):SoR (J.map fun j=>H.getD j default):=by
 unfold SoR
 rw[List.pairwise_map]
 refine h.imp fun{a b} q=> ?_
 rcases q with q |q
 ·exact UB q
 ·exact q.1
theorem insI_pw{H:List (Str×Str)}{J:List Nat}{i:Nat}(h:J.Pairwise (bf (ltI H)))(hlt:∀j∈J,j<i):(insI H J i).Pairwise (bf (ltI H)):=by
 have S:=bisR_spec (so_of h) (H.getD i default).1
 unfold insI
 generalize Zr fstS (Xf (J.map fun j=>H.getD j default)) (H.getD i default).1=b at S ⊢
 have at_:∀{m j:Nat},J[m]? =some j→(J.map fun j=>H.getD j default)[m]? =some (H.getD j default):=fun e=>by rw[List.getElem?_map,e];rfl
 rw[List.pairwise_append]
 refine⟨h.sublist (List.take_sublist ..),?_,?_⟩
 ·rw[List.pairwise_cons]
  refine⟨fun j hj=> ?_,h.sublist (List.drop_sublist ..)⟩
  obtain⟨m,hm⟩:=List.getElem?_of_mem hj
  rw[List.getElem?_drop]at hm
  exact .inl (S.2.2 _ _ (at_ hm) (Nat.le_add_right _ _))
 ·intro j hj
  obtain⟨m,hm⟩:=List.getElem?_of_mem hj
  have hmb:m<b:=Nat.lt_of_lt_of_le (List.getElem?_eq_some_iff.mp hm).1 (List.length_take_le b J)
  rw[List.getElem?_take_of_lt hmb]at hm
  have hji:bf (ltI H) j i:=.inr ⟨S.2.1 _ _ (at_ hm) hmb,hlt j (List.mem_of_getElem? hm)⟩
  intro y hy
  rcases Xz.mp hy with rfl |hy
  ·exact hji
  ·obtain⟨m',hm'⟩:=List.getElem?_of_mem hy
   rw[List.getElem?_drop]at hm'
   have hl:=(List.getElem?_eq_some_iff.mp hm).1
   have hl':=(List.getElem?_eq_some_iff.mp hm').1
   have:=List.pairwise_iff_getElem.mp h m (b+m') hl hl' (Nat.lt_of_lt_of_le hmb (Nat.le_add_right _ _))
   rw[(List.getElem?_eq_some_iff.mp hm).2,(List.getElem?_eq_some_iff.mp hm').2]at this
   exact this
theorem Uo(H:List (Str×Str)):∀k,k≤H.length→∃J:List Nat,J.Pairwise (bf (ltI H))∧J.Perm (List.range k)∧(H.take k).foldl insR []=J.map fun j=>H.getD j default
 |0,_=>⟨[],.nil,.refl _,rfl⟩
 |k+1,hk=>by
  obtain⟨J,h1,h2,h3⟩:=Uo H k (Nat.le_of_succ_le hk)
  have hg:H[k]? =some (H.getD k default):=by
   rw[List.getD_eq_getElem?_getD,List.getElem?_eq_getElem (show k<H.length from hk)];rfl
  refine⟨insI H J k,insI_pw h1 fun j hj=>List.mem_range.mp (h2.mem_iff.mp hj),?_,?_⟩
  ·refine(insI_perm H J k).trans ?_
   rw[List.range_succ]
   exact((List.Perm.cons k h2).trans (List.perm_append_singleton k _).symm)
  ·rw[List.take_add_one,hg,List.foldl_append,h3,insI_map]
   rfl
theorem so_fold(H:List (Str×Str)):SoR (H.foldl insR []):=by
 obtain⟨J,h1,_,h3⟩:=Uo H H.length (Nat.le_refl _)
 rw[List.take_length]at h3
 rw[h3]
 exact so_of h1
theorem ord_fold(H:List (Str×Str))(p:Array Nat)(hp:PI H.length p H.length)(ha:Asc (fun i j=>ltS (fstS ((Xf H).getD i elt0)) (fstS ((Xf H).getD j elt0))) p H.length):(p.toList.map fun i=>(Xf H).getD i elt0)=Xf (H.foldl insR []):=by
 obtain⟨J,h1,h2,h3⟩:=Uo H H.length (Nat.le_refl _)
 rw[List.take_length]at h3
 have get:∀i,i<H.length→H[i]? =some (H.getD i default):=fun i hi=>by rw[List.getD_eq_getElem?_getD,List.getElem?_eq_getElem hi];rfl
 have hlt:∀i,i<p.toList.length→p.toList.getD i 0<H.length:=fun i hi=>by
  have:=hp.head i (by rw[Array.length_toList,hp.size]at hi;exact hi)
  rwa [Array.getD_eq_getD_getElem?,←Array.getElem?_toList,←List.getD_eq_getElem?_getD]at this
 have hperm:p.toList.Perm (List.range H.length):=by
  have:=Array.perm_iff_toList_perm.mp hp.perm
  simpa using this
 have hpw:p.toList.Pairwise (bf (ltI H)):=by
  rw[List.pairwise_iff_getElem]
  intro i j hi hj hij
  have hi':i<H.length:=by rw[Array.length_toList,hp.size]at hi;exact hi
  have hj':j<H.length:=by rw[Array.length_toList,hp.size]at hj;exact hj
  have a:=ha i j hij hj'
  have g:∀{i:Nat} (hi:i<p.toList.length),p.getD i 0=p.toList[i]:=fun hi=>by
   rw[Array.getD_eq_getD_getElem?,←Array.getElem?_toList,List.getElem?_eq_getElem hi];rfl
  rw[g hi,g hj]at a
  have li:=hlt i hi
  have lj:=hlt j hj
  rw[List.getD_eq_getElem?_getD,List.getElem?_eq_getElem hi]at li
  rw[List.getD_eq_getElem?_getD,List.getElem?_eq_getElem hj]at lj
  have e1:=ZI (get _ li)
  have e2:=ZI (get _ lj)
  unfold bf at a ⊢
  unfold ltI
  simp only[Option.getD_some]at e1 e2
  dsimp only at a
  rw[e1,e2]at a
  exact a
 have e:p.toList=J:=by
  refine List.Perm.eq_of_pairwise (le:=bf (ltI H)) (fun a b _ _ h5 h6=> ?_) hpw h1 (hperm.trans h2.symm)
  rcases h5 with h5 |h5
  ·rcases h6 with h6 |h6
   ·have h7:ltI H b a=false:=UB h5
    rw[h7]at h6;cases h6
   ·rw[h6.1]at h5;cases h5
  ·rcases h6 with h6 |h6
   ·rw[h5.1]at h6;cases h6
   ·exact absurd h6.2 (Nat.lt_asymm h5.2)
 rw[e,h3]
 unfold Xf
 rw[List.map_map]
 refine List.map_congr_left fun i hi=> ?_
 have hi:i<H.length:=List.mem_range.mp (h2.mem_iff.mp hi)
 exact ZI (get i hi)
theorem take_lt(n:Nat):∀(x y:List Nat),y.take n<x.take n→y<x:=by
 induction n with
 |zero=>intro x y h;simp at h
 |succ n ih=>
  intro x y h
  cases x with
  |nil=>simp at h
  |cons a x=>
   cases y with
   |nil=>exact List.nil_lt_cons a x
   |cons b y=>
    rw[List.take_succ_cons,List.take_succ_cons,List.cons_lt_cons_iff]at h
    rw[List.cons_lt_cons_iff]
    rcases h with h | ⟨h1,h2⟩
    ·exact .inl h
    ·exact .inr ⟨h1,ih _ _ h2⟩
theorem UX(n:Nat)(p:Str×Str):(cutK n (.tup [.str p.1,.str p.2])).cps.toList=p.1.cps.toList.take n:=by
 unfold cutK Str.sl
 show(sl p.1.cps.toList none (some n))=_
 exact Ju _ _
theorem cut_mono{n:Nat}{p q:Str×Str}(h:ltS q.1 p.1=false):ltS (cutK n (.tup [.str q.1,.str q.2])) (cutK n (.tup [.str p.1,.str p.2]))=false:=by
 unfold ltS at *
 rw[UX,UX]
 rw[decide_eq_false_iff_not]at *
 exact fun m=>h (take_lt n _ _ m)
theorem cut_starts{h:Str}{p:Str×Str}:(ltS (cutK h.length (.tup [.str p.1,.str p.2])) h=false∧ltS h (cutK h.length (.tup [.str p.1,.str p.2]))=false)↔Txt.startswith p.1 h=true:=by
 have e:Txt.startswith p.1 h=true↔p.1.cps.toList.take h.length=h.cps.toList:=by
  unfold Txt.startswith
  rw[Bool.and_eq_true,StrLaws.subAt_eq,beq_iff_eq,List.drop_zero,decide_eq_true_eq]
  refine⟨fun q=>q.2,fun q=>⟨?_,q⟩⟩
  have:=congrArg List.length q
  rw[List.length_take,Array.length_toList,Array.length_toList]at this
  exact Nat.le_trans (Nat.le_of_eq ((Nat.zero_add _).trans this.symm)) (Nat.min_le_right _ _)
 rw[e]
 unfold ltS
 rw[UX,decide_eq_false_iff_not,decide_eq_false_iff_not]
 constructor
 ·rintro⟨h1,h2⟩
  exact List.le_antisymm (List.not_lt.mp h2) (List.not_lt.mp h1)
 ·intro q
  rw[q]
  exact⟨List.lt_irrefl _,List.lt_irrefl _⟩
theorem ZL{α:Type}{P:α→Bool}:∀(l:List α) (a b:Nat),(∀(i:Nat) (x:α),l[i]? =some x→(P x=true↔a≤i∧i<b))→(l.drop a).take (b-a)=l.filter P
 | [],a,b,_=>by rw[List.drop_nil,List.take_nil,List.filter_nil]
 |x::l,a,b,h=>by
  have h0:=h 0 x rfl
  cases a with
  |zero=>
   cases b with
   |zero=>
    have ih:=ZL l 0 0 fun i y hy=>(h (i+1) y hy).trans ⟨fun q=>absurd q.2 (Nat.not_lt_zero _),fun q=>absurd q.2 (Nat.not_lt_zero _)⟩
    rw[List.filter_cons_of_neg (fun q=>Nat.not_lt_zero _ (h0.mp q).2),←ih];rfl
   |succ b=>
    have ih:=ZL l 0 b fun i y hy=>(h (i+1) y hy).trans ⟨fun q=>⟨Nat.zero_le _,Nat.lt_of_succ_lt_succ q.2⟩,fun q=>⟨Nat.zero_le _,Nat.succ_lt_succ q.2⟩⟩
    rw[List.filter_cons_of_pos (h0.mpr ⟨Nat.zero_le _,Nat.succ_pos _⟩),←ih];rfl
  |succ a=>
   have ih:=ZL l a (b-1) fun i y hy=>(h (i+1) y hy).trans ⟨fun q=>⟨Nat.le_of_succ_le_succ q.1,Nat.lt_sub_of_add_lt q.2⟩,fun q=>⟨Nat.succ_le_succ q.1,Nat.add_lt_of_lt_sub q.2⟩⟩
   rw[List.filter_cons_of_neg (fun q=>Nat.not_succ_le_zero _ (h0.mp q).1),←ih,List.drop_succ_cons,Nat.sub_sub,Nat.add_comm]
theorem low_high{R:List (Str×Str)}(hs:SoR R)(h:Str):sl R (some (Zo R h)) (some (Zv R h))=R.filter fun p=>Txt.startswith p.1 h:=by
 have S1:=JZ (go:=fun i=>ltS (cutK h.length ((Xf R).getD i elt0)) h) (n:=R.length) (fun i j hij hj hg=> ?_) (R.length+1) 0 R.length (Nat.zero_le _) (Nat.le_refl _) (Nat.lt_of_lt_of_le (Nat.lt_succ_self _) (Nat.le_add_left _ _)) (fun i hi=>absurd hi (Nat.not_lt_zero i)) (fun i h1 h2=>absurd h2 (Nat.not_lt_of_ge h1))
 ·have L1:Zo R h≤R.length∧(∀i,i<Zo R h→ltS (cutK h.length ((Xf R).getD i elt0)) h=true)∧∀i,Zo R h≤i→i<R.length→ltS (cutK h.length ((Xf R).getD i elt0)) h=false:=by
   unfold Zo;rw[Vj];exact S1
  clear S1
  have S2:=JZ (go:=fun i=> !ltS h (cutK h.length ((Xf R).getD i elt0))) (n:=R.length) (fun i j hij hj hg=> ?_) (R.length+1) (Zo R h) R.length L1.1 (Nat.le_refl _) (Nat.lt_of_lt_of_le (Nat.lt_succ_self _) (Nat.le_add_left _ _)) (fun i hi=>by rw[UB (L1.2.1 i hi)];rfl) (fun i h1 h2=>absurd h2 (Nat.not_lt_of_ge h1))
  ·have L2:(∀i,i<Zv R h→(!ltS h (cutK h.length ((Xf R).getD i elt0)))=true)∧∀i,Zv R h≤i→i<R.length→(!ltS h (cutK h.length ((Xf R).getD i elt0)))=false:=by
    unfold Zv;rw[Vj];exact S2.2
   clear S2
   refine ZL R _ _ fun i p hp=> ?_
   have hi:=(List.getElem?_eq_some_iff.mp hp).1
   have a1:=L1.2.1 i
   have a2:=fun q=>L1.2.2 i q hi
   have b1:=L2.1 i
   have b2:=fun q=>L2.2 i q hi
   rw[ZI hp]at a1 a2 b1 b2
   rw[←cut_starts]
   constructor
   ·rintro⟨c1,c2⟩
    refine⟨Nat.le_of_not_lt fun q=> ?_,Nat.lt_of_not_le fun q=> ?_⟩
    ·rw[a1 q]at c1;cases c1
    ·have:=b2 q;rw[c2]at this;cases this
   ·rintro⟨c1,c2⟩
    exact⟨a2 c1,(Bool.not_eq_true' _).mp (b1 c2)⟩
  ·have hi:=Nat.lt_of_le_of_lt hij hj
   rw[ZI (List.getElem?_eq_getElem hj)]at hg
   rw[ZI (List.getElem?_eq_getElem hi)]
   exact(Bool.not_eq_true' _).mpr (Vr ((Bool.not_eq_true' _).mp hg) (cut_mono (Wr hs hij (List.getElem?_eq_getElem hi) (List.getElem?_eq_getElem hj))))
 ·have hi:=Nat.lt_of_le_of_lt hij hj
  rw[ZI (List.getElem?_eq_getElem hj)]at hg
  rw[ZI (List.getElem?_eq_getElem hi)]
  cases q:ltS (cutK h.length (.tup [.str R[i].1,.str R[i].2])) h with
  |true=>rfl
  |false=>
   rw[Vr (cut_mono (Wr hs hij (List.getElem?_eq_getElem hi) (List.getElem?_eq_getElem hj))) q]at hg;cases hg
theorem sl_spell(d n:Nat):Str.sl (spell d) none (some n)=spK (d/4096) ((Xg d).take n):=by
 apply Js
 rw[KM fun k hk=>Yb (List.mem_of_mem_take hk)]
 unfold Str.sl
 show sl (spell d).cps.toList none (some n)=_
 rw[Ju,Zc,List.map_take]
theorem found_due(D:List Nat)(d n:Nat):JV (Rk D D.length) (Hk D D.length) (Str.sl (spell d) none (some n))=dueR (Hk D D.length) (Rk D D.length) d n:=by
 have hK:∀k∈(Xg d).take n,k<16:=fun k hk=>Yb (List.mem_of_mem_take hk)
 have hm:cat ((XR d).take n)=mnK (d/4096) ((Xg d).take n):=by unfold XR mnK;rw[List.map_take]
 unfold JV dueR
 rw[sl_spell,prep_spK hK,hm,Zn hK,barL_K hK]
 by_cases h14:14∈(Xg d).take n
 ·rw[if_pos h14,if_pos h14,if_pos (tab_pos _)];rfl
 ·rw[if_neg h14,if_neg h14,if_neg (fun q=>q rfl)]
  have hs:SoR (Rk D D.length):=by
   have:=so_fold (Hk D D.length)
   exact this
  rw[low_high hs]
  congr 2
  unfold Kv
  rw[lower_upper (mnK_case hK h14),Zn hK,nm_K hK]
  have hf:((Hk D D.length).filter fun p=>Txt.lower p.1==mnK (d/4096) ((Xg d).take n))=(Hk D D.length).filter fun p=>p.1==mnK (d/4096) ((Xg d).take n):=List.filter_congr fun p hp=>by rw[(JU hp).2.2.2]
  rw[hf]
  by_cases h15:15∈(Xg d).take n
  ·rw[if_pos (decide_eq_true h15),if_pos h15]
  ·rw[if_neg (by rw[decide_eq_false h15];decide),if_neg h15]
theorem plain2_D(D:List Nat):Plain2 D where
 fw:=wd_fit D
 fr:=tup_fit fun p hp=>let q:=JU (VT hp);⟨q.1,q.2.1⟩
 fh:=tup_fit fun p hp=>let q:=JU hp;⟨q.1,q.2.1⟩
 hs:=fun p hp=>by rw[(JU hp).2.2.2];exact(JU hp).2.2.1
 rs:=fun p hp=>(JU (VT hp)).2.2.1
 ord:=fun p hp ha=>ord_fold _ p hp ha
 fd:=fun d _ n _ _=>found_due D d n
 ft:=fun d _ n _ _=>due_fit
 dp:=fun d n=>due_dpt
theorem walk_law:VF:=law_walk fun ns _=>⟨plain_D _,plain2_D _⟩
noncomputable abbrev LL:OpenLaw:=PySem.Challenge.rw_uq0029_01
noncomputable abbrev PP:Program:=LL.row.prog
theorem r1:sreFenced PP.main=true:=by kernel_rfl
theorem r2:((moduleNames PP.main.body).isEmpty||lookedIntoSs (moduleNames PP.main.body) PP.main.body)=true:=by kernel_rfl
theorem r3:namesResolve PP=true:=by kernel_rfl
theorem r4:PP.boundNames.all (fun n=> !worldNames.contains n)=true:=by kernel_rfl
theorem r5a:(!(importedModules PP.main.body).all cThrough.contains)=false:=by kernel_rfl
theorem r5v:readsOut PP PP.main.body "vars"=false:=by kernel_rfl
theorem r5d:readsOut PP PP.main.body "dir"=false:=by kernel_rfl
theorem r5l:readsOut PP PP.main.body "locals"=false:=by kernel_rfl
theorem r5b:(["vars","dir","locals"]:List Str).filter (readsOut PP PP.main.body)=[]:=by
 rw[List.filter_cons_of_neg (by rw[r5v];exact Bool.false_ne_true),List.filter_cons_of_neg (by rw[r5d];exact Bool.false_ne_true),List.filter_cons_of_neg (by rw[r5l];exact Bool.false_ne_true),List.filter_nil]
theorem r5c:noRoadLSs {strict:=false,foot:=none,bare:=[]} PP.main.body=true:=by kernel_rfl
theorem r5:noRoadLSs {strict:= !(importedModules PP.main.body).all cThrough.contains,foot:=none,bare:=(["vars","dir","locals"]:List Str).filter (readsOut PP PP.main.body)} PP.main.body=true:=by
 rw[r5a,r5b];exact r5c
theorem r6:(namesMeet PP PP.main.body fun _ n=>attrL n)=true:=by kernel_rfl
theorem r7:looksOpen LL.row.prog=true:=look_both (look_both (look_both (look_both (look_both r1 r2) r3) r4) r5) r6
theorem r8:LL.row.wellSaid=true:=by
 unfold OpenRow.wellSaid OpenRow.partSaid
 rw[r7]
 kernel_rfl
theorem s1:LL.row.wellSaid=true:=r8
theorem s2:decide (LL.foot≤(behindTheImports LL.prog).length)=true:=by kernel_rfl
theorem s3:LL.footing.all footLine=true:=by kernel_rfl
theorem s4:noClassBlock LL.prog LL.footing=true:=by kernel_rfl
theorem s5:LL.most.all (fun n=>decide (63≤n))=true:=by kernel_rfl
theorem s6:LL.bound.all (fun n=>decide (2 ^ 63≤n))=true:=by kernel_rfl
theorem s7:noRoadLSs {strict:=true,foot:=some LL.bound',writes:=LL.writes,may:=LL.may} LL.footing=true:=by kernel_rfl
theorem s8:defStands LL.about LL.above=true:=by kernel_rfl
theorem s9:LL.namesIt=true:=by kernel_rfl
theorem s10:(["type","isinstance","issubclass","getattr","hasattr"]:List Str).all (fun n=>LL.about !=[n])=true:=by kernel_rfl
theorem s11:LL.bound'.all (fun n=> !builtinNamed n||LL.about==[n]|| !LL.reads n)=true:=by kernel_rfl
theorem s12:(!LL.writes||(LL.prog.main.body.flatMap importedNames).all fun n=> !LL.reads n)=true:=by kernel_rfl
theorem s13:(LL.prog.main.body.flatMap importedNames).all (fun n=> !LL.reads n||(drawsOf n LL.prog.main.body).all fun mn=>mn.2 !=("attrgetter":Str)&&mn.2 !=("methodcaller":Str))=true:=by kernel_rfl
theorem s14:namesMeet LL.prog LL.footing (fun sc n=>(!(["type","isinstance","issubclass","getattr","hasattr"]:List Str).contains n||sc.names.lookup n==some .globalImplicit)&&
 (LL.may !=some n||sc.kind==.module||sc.names.lookup n==some .globalImplicit))=true:=by kernel_rfl
theorem s15:LL.own.contains LL.name=true:=by kernel_rfl
theorem s16:(LL.own.eraseDups.length==LL.own.length)=true:=by kernel_rfl
theorem s17:LL.own.all (fun n=> !builtinNamed n)=true:=by kernel_rfl
theorem s18:namesMeet LL.prog LL.above (fun _ n=> !LL.own.contains n)=true:=by kernel_rfl
theorem s19:(namesMeet LL.prog LL.footing fun sc n=>sc.kind==.module||sc.names.lookup n !=some .globalExplicit)=true:=by kernel_rfl
theorem said_law:LL.wellSaid=true:=look_both (look_both (look_both (look_both (look_both (look_both (look_both (look_both (look_both (look_both (look_both (look_both (look_both (look_both (look_both (look_both (look_both (look_both s1 s2) s3) s4) s5) s6) s7) s8) s9) s10) s11) s12) s13) s14) s15) s16) s17) s18) s19
end
end
end Mine
open PySem PySem.W PyProof.Rows
theorem PySem.Challenge.cw_uq0029_01_holds : PySem.Challenge.rw_uq0029_01.Holds :=
  holds_law Mine.said_law fun said => Mine.law_of_walk said Mine.walk_law
