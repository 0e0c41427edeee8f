import PyProof.Rows.All
import Wide.FinOn
import OpenK.AllK
import Wide.All
import Lean
import PySem.Challenge.RW_ai0042_01
noncomputable section
open PySem
set_option bootstrap.genMatcherCode false
namespace Mine
abbrev PR := Value -> Shared -> Prop
abbrev FS := Flow -> Shared -> Prop
abbrev SV := Str -> Option Value
abbrev EX := PySem.Expr
theorem fT : ¬ (false = true) := Bool.false_ne_true
end Mine
end
noncomputable section
open PySem PySem.W PyProof.Rows PySem.Calls
set_option Elab.async false
set_option autoImplicit false
set_option maxRecDepth 100000
set_option linter.all false
set_option genInjectivity false
set_option genSizeOf false
set_option bootstrap.genMatcherCode false
namespace Mine
noncomputable abbrev PH:Program:=PySem.Challenge.pw_ai0042_01
noncomputable def den:Code->Sem Fin:=PySem.W.Fast.tw11892475500146522536 PySem.W.Fast.tw14364793385576792824
theorem den_eq:den = denote table:=by
 unfold den
 rw [table_eq_tree,<- PySem.W.Fast.te14364793385576792824,<- PySem.W.Fast.te11892475500146522536]
structure HSt where
 T:BT
 n:Nat
 toks:Nat
 drawn:Drawn
structure HR (h:Heap) (T:BT) (n:Nat):Prop where
 size:h.objs.size = n
 at_:∀ a o,a < n->T.get a = some o->h.get? a = alive o
theorem get_alive {h:Heap} {a:Addr} {o:Obj} (e:h.objs[a]? = some o):h.get? a = alive o:=by
 unfold Heap.get?
 rw [e]
 obtain ⟨c,d,dt,sl⟩:=o
 cases dt <;> rfl
theorem alive_raw {h:Heap} {a:Addr} {o:Obj} (e:h.get? a = some o):h.objs[a]? = some o:=(Heap.get?_some_iff.mp e).1
theorem alive_self {o o':Obj} (e:alive o = some o'):o' = o:=by
 obtain ⟨c,d,dt,sl⟩:=o
 cases dt <;> first | exact (Option.some.inj e).symm | exact nomatch e
theorem HR.push {h:Heap} {T:BT} {n:Nat} (x:HR h T n) {o:Obj} (g:((T.ins n o).get n).isSome = true):HR (h.push o) (T.ins n o) (n + 1):=by
 refine ⟨by rw [Heap.size_push,x.size],fun a o' ha e=>?_⟩
 rw [BT.get_ins o T n g] at e
 by_cases q:a = n
 ·rw [if_pos q] at e
  cases e
  refine get_alive ?_
  have:=x.size
  subst q
  cases h
  simp only at this
  simp only [Heap.push,Array.getElem?_push]
  rw [if_pos this.symm]
 ·rw [if_neg q] at e
  have e1:=x.at_ a o' (by lia) e
  have hs:=x.size
  rw [<- e1]
  unfold Heap.get?
  have:(h.push o).objs[a]? = h.objs[a]?:=by
   cases h
   simp only at hs
   simp only [Heap.push,Array.getElem?_push]
   rw [if_neg (by lia)]
  rw [this]
theorem HR.update {h:Heap} {T:BT} {n:Nat} (x:HR h T n) {a:Addr} {f:Obj->Obj} {o o':Obj} (lt:a < n) (g:T.get a = some o) (al:alive o = some o'):HR (h.update a f) (T.set a f) n:=by
 refine ⟨by rw [Heap.size_after_update,x.size],fun b u hb e=>?_⟩
 rw [BT.get_set] at e
 by_cases q:b = a
 ·subst q
  rw [if_pos rfl,g] at e
  cases e
  have e1:=(x.at_ b o lt g).trans al
  obtain rfl:=alive_self al
  have:=alive_raw e1
  refine get_alive ?_
  cases h
  simp only at this
  simp [Heap.update,Array.getElem?_modify,this]
 ·rw [if_neg q] at e
  rw [Heap.get?_update_other _ _ (Ne.symm q)]
  exact x.at_ b u hb e
structure KFr where
 k:Result->Sem Fin
 Γ:Ctx
 p:Pos
structure Cfg where
 t:Sem Fin
 Γ:Ctx
 p:Pos
 K:List KFr
 s:HSt
noncomputable def stp (P:Params):Cfg->Option Cfg
 | ⟨t,Γ,p,K,s⟩=>match t with
  | .pure (.done f)=>match K with
   | []=>none
   | ⟨k,Γ',p'⟩ :: K'=>some ⟨k (.ok f),Γ',p',K',s⟩
  | .pure (.again c)=>cond c.quiet (some ⟨den c,Γ.goto c,p,K,s⟩) none
  | .raise e=>match K with
   | []=>none
   | ⟨k,Γ',p'⟩ :: K'=>some ⟨k (.error e),Γ',p',K',s⟩
  | .rule _ k=>some ⟨k (),Γ,p,K,s⟩
  | .at p' k=>some ⟨k (),Γ,p',K,s⟩
  | .load a _ k=>cond (Nat.blt a s.n) ((s.T.get a).bind fun o=>(alive o).bind fun o'=>some ⟨k o',Γ,p,K,s⟩) none
  | .update a _ f k=>cond (Nat.blt a s.n) ((s.T.get a).bind fun o=>(alive o).bind fun _=>some ⟨k (),Γ,p,K,⟨s.T.set a f,s.n,s.toks,s.drawn⟩⟩) none
  | .alloc o k=>cond ((s.T.ins s.n o).get s.n).isSome (some ⟨k s.n,Γ,p,K,⟨s.T.ins s.n o,s.n + 1,s.toks,s.drawn⟩⟩) none
  | .loadIfAlive a k=>cond (Nat.blt a s.n) ((s.T.get a).bind fun o=>some ⟨k (alive o),Γ,p,K,s⟩) (some ⟨k none,Γ,p,K,s⟩)
  | .point _ k=>some ⟨k (),Γ,p,K,s⟩
  | .fresh k=>some ⟨k s.toks,Γ,p,K,⟨s.T,s.n,s.toks + 1,s.drawn⟩⟩
  | .ask k=>some ⟨k ⟨PH,P⟩,Γ,p,K,s⟩
  | .call c h _ _ k=>some ⟨den c,Γ.enter c h p,p,⟨k,Γ,p⟩ :: K,s⟩
  | .handled own k=>some ⟨k (if own then Γ.own else Γ.handled),Γ,p,K,s⟩
  | .stack k=>some ⟨k ((Γ.code,p) :: Γ.below),Γ,p,K,s⟩
  | _=>none
def wpF (M:Model) (Γ:Ctx) (t:Sem Fin) (R:Result->Shared->Prop) (p:Pos) (s:Shared):Prop :=
 Sem.wp M Γ t (Sem.finPost M Γ R) (fun e _ s'=>R (.error e) s') p s
theorem wpF_code {M:Model} {Γ:Ctx} {R:Result->Shared->Prop} {p:Pos} {s:Shared} (h:wpF M Γ (M.den Γ.code) R p s):wpCode M Γ R p s:=by
 obtain ⟨r,s',h1,h2⟩:=(Sem.wp_iff_runs M Γ _ R p s).mp h
 exact ⟨r,s',h1,h2⟩
def kWp (M:Model) (R:Result->Shared->Prop):List KFr->Result->Shared->Prop
 | [],r,s=>R r s
 | f :: K,r,s=>wpF M f.Γ (f.k r) (kWp M R K) f.p s
def cWp (w:World) (os:OsState) (R:Result->Shared->Prop) (c:Cfg):Prop :=
 ∀ h,HR h c.s.T c.s.n->wpF (model PH w) c.Γ c.t (kWp (model PH w) R c.K) c.p ⟨h,#[],c.s.drawn,c.s.toks,os⟩
theorem none_ne {α:Type} {a:α} {G:Prop} (h:none = some a):G:=nomatch h
theorem cond_inv {α:Type} {b:Bool} {x y:Option α} {a:α} {G:Prop} (h:cond b x y = some a) (t:b = true->x = some a->G) (f:b = false->y = some a->G):G:=by
 cases b with
 | true=>exact t rfl h
 | false=>exact f rfl h
theorem bind_inv {α β:Type} {x:Option α} {f:α->Option β} {b:β} {G:Prop} (h:x.bind f = some b) (t:∀ a,x = some a->f a = some b->G):G:=by
 cases x with
 | some a=>exact t a rfl h
 | none=>exact none_ne h
section
variable {w:World} {os:OsState} {R:Result->Shared->Prop} {P:Params}
theorem got {h:Heap} {T:BT} {n:Nat} (X:HR h T n) {a:Addr} {o o':Obj} (e:Nat.blt a n = true) (g:T.get a = some o) (al:alive o = some o'):h.get? a = some o':=(X.at_ a o (Nat.le_of_ble_eq_true e) g).trans al
theorem den_at {Γ:Ctx} {Q:Result->Shared->Prop} {p:Pos} {s:Shared} (k:wpF (model PH w) Γ (den Γ.code) Q p s):wpCode (model PH w) Γ Q p s:=by
 rw [den_eq] at k
 exact wpF_code k
theorem stp_sound (hP:P = w.params) {c c':Cfg} (h:stp P c = some c') (k:cWp w os R c'):cWp w os R c:=by
 subst hP
 obtain ⟨t,Γ,p,K,s⟩:=c
 intro hp X
 show Sem.wp (model PH w) Γ t _ _ p ⟨hp,#[],s.drawn,s.toks,os⟩
 cases t with
 | pure f =>
  cases f with
  | done f =>
   cases K with
   | nil=>exact none_ne h
   | cons fr K=>cases Option.some.inj h; exact k hp X
  | again c=>exact cond_inv h (fun hq h=>by cases Option.some.inj h; exact ⟨hq,den_at (k hp X)⟩) fun _=>none_ne
 | raise e =>
  cases K with
  | nil=>exact none_ne h
  | cons fr K=>cases Option.some.inj h; exact k hp X
 | rule _ k'=>cases Option.some.inj h; exact k hp X
 | «at» p' k'=>cases Option.some.inj h; exact k hp X
 | point _ k'=>cases Option.some.inj h; exact k hp X
 | fresh k'=>cases Option.some.inj h; exact k hp X
 | ask k'=>cases Option.some.inj h; exact k hp X
 | handled own k'=>cases Option.some.inj h; exact k hp X
 | stack k'=>cases Option.some.inj h; exact k hp X
 | call c h' g l k' =>
  cases Option.some.inj h
  rw [Sem.wp_call]
  exact den_at (k hp X)
 | load a q k'=>exact cond_inv h (fun e h=>bind_inv h fun o g h=>bind_inv h fun o' al h=>by
  cases Option.some.inj h
  rw [Sem.wp_load]
  exact ⟨o',got X e g al,k hp X⟩) fun _=>none_ne
 | update a q f k'=>exact cond_inv h (fun e h=>bind_inv h fun o g h=>bind_inv h fun o' al h=>by
  cases Option.some.inj h
  rw [Sem.wp_update]
  exact ⟨by show (hp.get? a).isSome; rw [got X e g al]; rfl,k _ (X.update (Nat.le_of_ble_eq_true e) g al)⟩) fun _=>none_ne
 | alloc o k'=>exact cond_inv h (fun e h=>by
  cases Option.some.inj h
  rw [Sem.wp_alloc]
  show Sem.wp _ _ (k' hp.objs.size) _ _ _ ⟨hp.push o,#[],s.drawn,s.toks,os⟩
  rw [X.size]
  exact k _ (X.push e)) fun _=>none_ne
 | loadIfAlive a k' =>
  rw [Sem.wp_loadIfAlive]
  exact cond_inv h (fun e h=>bind_inv h fun o g h=>by
   cases Option.some.inj h
   show Sem.wp _ _ (k' (hp.get? a)) _ _ _ _
   rw [X.at_ a o (Nat.le_of_ble_eq_true e) g]
   exact k hp X) fun e h=>by
   cases Option.some.inj h
   have lt:¬ a < s.n:=fun q=>by rw [show Nat.blt a s.n = true from Nat.ble_eq_true_of_le q] at e; cases e
   show Sem.wp _ _ (k' (hp.get? a)) _ _ _ _
   rw [Heap.get?_none_of_le (by rw [X.size]; exact Nat.le_of_not_lt lt)]
   exact k hp X
 | _=>exact none_ne h
noncomputable def goH (P:Params):Nat->Cfg->Option Cfg
 | 0,c=>some c
 | n + 1,c=>(stp P c).bind (goH P n)
theorem go_sound (hP:P = w.params) {n:Nat}:∀ {c c':Cfg},goH P n c = some c'->cWp w os R c'->cWp w os R c:=by
 induction n with
 | zero=>intro c c' h k; cases Option.some.inj h; exact k
 | succ n ih=>exact fun h k=>bind_inv h fun c₁ e h=>stp_sound hP e (ih h k)
noncomputable def endO:Cfg->Option (Flow × HSt)
 | ⟨.pure (.done f),_,_,[],s⟩=>some (f,s)
 | _=>none
noncomputable def runH (P:Params):Nat->Cfg->Option (Flow × HSt)
 | 0,_=>none
 | n + 1,c=>match stp P c with
  | some c'=>runH P n c'
  | none=>endO c
theorem end_inv {c:Cfg} {x:Flow × HSt} (h:endO c = some x):∃ Γ p,c = ⟨.pure (.done x.1),Γ,p,[],x.2⟩:=by
 obtain ⟨t,Γ,p,K,s⟩:=c
 cases t with
 | pure fin =>
  cases fin with
  | done g =>
   cases K with
   | nil=>cases Option.some.inj h; exact ⟨_,_,rfl⟩
   | cons=>exact none_ne h
  | again=>exact none_ne h
 | _=>exact none_ne h
theorem run_sound (hP:P = w.params) {n:Nat} {c:Cfg} {f:Flow} {s':HSt} (h:runH P n c = some (f,s')) (k:∀ h,HR h s'.T s'.n->R (.ok f) ⟨h,#[],s'.drawn,s'.toks,os⟩):cWp w os R c:=by
 induction n generalizing c with
 | zero=>exact none_ne h
 | succ n ih =>
  have h:(match stp P c with | some c'=>runH P n c' | none=>endO c) = some (f,s'):=h
  cases e:stp P c with
  | some c₁=>rw [e] at h; exact stp_sound hP e (ih h)
  | none =>
   rw [e] at h
   obtain ⟨Γ,p,rfl⟩:=end_inv h
   exact fun hp X=>k hp X
end
noncomputable def topΓ:Ctx:=⟨.builtin "claim.caller" {},none,none,[],none⟩
theorem before_halt {den:Code->Sem Fin} {prog:Program} {w:World}:∀ {n:Nat} {s s':Shared} {t:Thread} {o:Outcome},runN den prog w n s t = .halted o s' ->
 ∃ m s₁ t₁,runN den prog w m s t = .running s₁ t₁ /\ step den prog w s₁ t₁ = .halt o s'
 | 0,_,_,_,_,h=>by cases h
 | n + 1,s,s',t,o,h=>by
  simp only [runN] at h
  cases e:step den prog w s t with
  | halt o₁ s₁ =>
   rw [e] at h
   injection h with h1 h2
   subst h1 h2
   exact ⟨0,s,t,rfl,e⟩
  | go s₁ t₁ =>
   rw [e] at h
   obtain ⟨m,s₂,t₂,h1,h2⟩:=before_halt h
   exact ⟨m + 1,s₂,t₂,by simp only [runN,e]; exact h1,h2⟩
noncomputable def notDone (o:Outcome):Bool:=match o with
 | .done _=>false
 | _=>true
noncomputable def ND (x:Step):Bool:=match x with
 | .halt o _=>notDone o
 | .go _ _=>true
theorem nd_ite {c:Prop} [Decidable c] {x y:Step} (hx:ND x = true) (hy:ND y = true):ND (if c then x else y) = true:=if h:c then by rw [if_pos h]; exact hx else by rw [if_neg h]; exact hy
theorem halt_done {den:Code->Sem Fin} {prog:Program} {w:World} {s s':Shared} {t:Thread} {f:Flow} (h:step den prog w s t = .halt (.done f) s'):through t = true /\ s' = s:=by
 refine ⟨?_,step_halt_same den prog w s s' t _ h⟩
 have nd:∀ {G:Prop},ND (step den prog w s t) = true->G:=fun z=>by rw [h] at z; cases z
 obtain ⟨heap,gens,drawn,toks,os⟩:=s
 obtain ⟨cur,code,pos,stack⟩:=t
 cases cur with
 | pure fin =>
  cases fin with
  | again c=>exact nd rfl
  | done g =>
   cases stack with
   | nil=>rfl
   | cons fr r=>cases fr <;> exact nd rfl
 | raise e =>
  cases stack with
  | nil=>exact nd (nd_ite rfl rfl)
  | cons fr r=>cases fr <;> exact nd rfl
 | finish e=>exact nd (nd_ite rfl rfl)
 | update=>exact nd (nd_ite rfl rfl)
 | choose=>exact nd (nd_ite rfl rfl)
 | load a q k =>
  refine nd ?_
  clear nd h
  show ND (match heap.get? a with | some o=>_ | none=>_) = true
  cases heap.get? a <;> rfl
 | genState g k =>
  refine nd ?_
  clear nd h
  show ND (match gens[g]? with | none=>_ | some st=>_) = true
  cases gens[g]? <;> rfl
 | «yield» v g0 l kk =>
  refine nd ?_
  clear nd h
  show ND (match splitAtGen stack with | some (frames,(g,k,c,p),rest)=>_ | none=>_) = true
  cases splitAtGen stack <;> rfl
 | resume g r l k =>
  refine nd ?_
  clear nd h
  show ND (match gens[g]? with | none=>_ | some (.fresh c)=>_ | some (.suspended kk _ c p frames _)=>_ | some .running=>_ | some .finished=>_) = true
  cases gens[g]? with
  | none=>rfl
  | some st =>
   cases st with
   | fresh c =>
    cases r with
    | send v=>cases v <;> rfl
    | throw e=>rfl
   | _=>rfl
 | _=>exact nd rfl
theorem nogens:leftWithCleanup #[] = false:=by decide +kernel
theorem top_through {w:World} {t:Sem Fin} {s:Shared} {R:Shared->Prop} (hz:s.asleep)
 (h:wpF (model PH w) topΓ t (fun r s'=>r = .ok (.ret .none) /\ s'.gens = #[] /\ R s') default s) :
 ∃ s₁,(∃ n t₁,schedN (denote table) PH w n (.single s ⟨t,.builtin "claim.caller" {},default,[]⟩) = .running (.single s₁ t₁) /\ through t₁ = true) /\ s₁.heap.life = s.heap.life /\ s₁.gens = #[] /\ R s₁:=by
 have h':Sem.wp (model PH w) topΓ t (Sem.finPost (model PH w) topΓ fun r s'=>(r = .ok (.ret .none) /\ s'.gens = #[] /\ R s') /\ leftWithCleanup s'.gens = false)
  (fun e _ s'=>((Except.error e:Result) = .ok (.ret .none) /\ s'.gens = #[] /\ R s') /\ leftWithCleanup s'.gens = false) default s:=by
  refine Sem.wp_mono _ _ _ (fun fin p' s' hf=>?_) (fun e p' s' he=>⟨he,by rw [he.2.1]; exact nogens⟩) _ _ h
  cases fin with
  | done f=>exact ⟨hf,by rw [hf.2.1]; exact nogens⟩
  | again c=>exact ⟨hf.1,wpCode_mono (fun r s' x=>⟨x,by rw [x.2.1]; exact nogens⟩) hf.2⟩
 obtain ⟨n,r,s',hn,hr,hg,hR⟩:=(wp_iff_halts (M:=model PH w) t (fun r s'=>r = .ok (.ret .none) /\ s'.gens = #[] /\ R s') default s).mp h'
 obtain ⟨s'',hs,hrn,hf⟩:=runNI_full _ _ _ hn (outcomeOf_ends r) hz
 obtain ⟨s₃,hrn3,hf3,hc⟩:=runNI_real _ _ _ hn (outcomeOf_ends r)
 obtain rfl:s'' = s':=Shared.eq_of_forget_eq hf hg
 subst hr
 obtain ⟨m,s₁,t₁,h1,h2⟩:=before_halt hrn
 obtain ⟨ht,rfl⟩:=halt_done (f:=.ret .none) h2
 have hne:∀ k s₂,runN (model PH w).den (model PH w).prog (model PH w).w k s ⟨t,.builtin "claim.caller" {},default,[]⟩ ≠ .halted (.unsupported "lifetime:generator-with-cleanup-left-suspended") s₂:=by
  intro k s₂ hk
  have a:=runN_mono _ _ _ n k s _ _ _ hrn
  have b:=runN_mono _ _ _ k n s _ _ s₂ hk
  rw [Nat.add_comm,b] at a
  injection a with a1 _
  cases a1
 refine ⟨s'',⟨m,t₁,?_,ht⟩,runN_life_running h1,hg,hR⟩
 exact (schedN_eq_runN _ _ _ s _ hz ⟨hc,hne⟩ m).trans (congrArg Run.lift h1)
noncomputable abbrev MH (w:World):Model:=model PH w
noncomputable abbrev sk (w:World):=PySem.strKind PH w
inductive Consts:List EX->List Str->Prop
 | nil:Consts [] []
 | cons (x:Str) (k:Nat) (p:Pos) {es:List EX} {xs:List Str} (h:Consts es xs):Consts (.Constant (.str x) k p :: es) (x :: xs)
noncomputable def constVals:List Str->Nat->List Value
 | [],_=>[]
 | x :: xs,t=>.str x t :: constVals xs (t + 1)
section
variable {w:World} {A:Around} {E:PR} {env:Env}
theorem consts_all {es:List EX} {xs:List Str} (c:Consts es xs):∀ (s:Shared) (Q:List Value->Shared->Prop),Q (constVals xs s.toks) { s with toks:=s.toks + xs.length }->KdsAll (MH w) A E env es Q s:=by
 induction c with
 | nil=>exact fun s Q h=>h
 | @cons x k p es xs c ih =>
  intro s Q h
  refine wpAny_Constant_str ?_
  refine ih _ _ ?_
  have e:s.toks + (x :: xs).length = s.toks + 1 + xs.length:=by rw [List.length_cons]; lia
  rw [e] at h
  exact h
theorem setOf_congr {h:Heap} {a:Addr} {S S':Str->Bool} {n:Nat} (e:∀ k,S k = S' k) (x:h.SetOf (sk w) a S n):h.SetOf (sk w) a S' n:=by
 have:S = S':=funext e
 rw [<- this]; exact x
theorem fill_strs {d:Addr} {Q:PR}:∀ (xs:List Str) (t:Nat) (s:Shared) (S:Str->Bool) (n:Nat),s.heap.SetOf (sk w) d S n->n + xs.length + 1 < scanBound ->
 (∀ h' n',Heap.SameBut d s.heap h'->h'.SetOf (sk w) d (fun k=>S k || xs.contains k) n'->n' < scanBound->Q (.ref d) { s with heap:=h',toks:=s.toks + xs.length })->KdsFill (MH w) A E true d Q (constVals xs t) s
 | [],t,s,S,n,x,hn,h=>by
  refine kds_fill_unled rfl ?_
  obtain ⟨o,es,ep,tb,ho,hex,hd,hel,hmem,hb,hf,hsz⟩:=x
  have hf':({ tb with led:=false }:SetTable).fits es.size = true:=by cases tb; exact hf
  unfold setUnled
  refine wpAny_bind (wpAny_setState_of ho hd hf ?_)
  dsimp only
  refine wpAny_storeSet_of ho hd ?_ (fits_of_scanBound hb)
  obtain ⟨_,hS⟩:=SetOf_store (knd:=sk w) ho hex hd hel hmem hb hf'
  exact h _ _ (Heap.SameBut.update s.heap d (Obj.putSet es { tb with led:=false })) (setOf_congr (fun k=>by simp) hS) hb
 | x :: xs,t,s,S,n,X,hn,h=>by
  refine kds_fill_cons ?_
  unfold setAdd
  refine wpAny_holding (wpAny_bind ((sk w).pyHash (PySem.strKind_is PH w x t) ?_))
  refine wpAny_setAddHashed_of (s:={ s with toks:=s.toks + 1 }) (PySem.strKind_is PH w x t) rfl X (by simp only [List.length_cons] at hn; lia) fun h' hsb hS'=>?_
  refine fill_strs xs (t + 1) _ _ (if S x = true then n else n + 1) hS' (by simp only [List.length_cons] at hn; split <;> lia) fun h'' n' sb2 S2 hn'=>?_
  have e:s.toks + 1 + xs.length = s.toks + (x :: xs).length:=by rw [List.length_cons]; lia
  have:=h h'' n' (Heap.SameBut.trans hsb sb2) (setOf_congr (fun k=>by simp only [List.contains_cons,Bool.or_assoc]; congr 1) S2) hn'
  rw [<- e] at this
  exact this
theorem consts_plain {es:List EX} {xs:List Str} (c:Consts es xs):es.all kdsPlain = true:=by
 induction c with
 | nil=>rfl
 | cons _ _ _ _ ih=>exact ih
theorem consts_len {es:List EX} {xs:List Str} (c:Consts es xs):es.length = xs.length:=by
 induction c with
 | nil=>rfl
 | cons _ _ _ _ ih=>exact congrArg (· + 1) ih
noncomputable def setObj (es:Array (Int × Value)) (ep:Nat) (t:SetTable):Obj:={ cls:=.type "set",dict:=none,data:=.set es ep t,slots:=#[] }
def SetHole (w:World) (xs:List Str) (o:Obj):Prop:=∀ (h:Heap) (a:Addr),h.get? a = some o->∃ n,h.SetOf (sk w) a (fun y=>xs.contains y) n /\ n < 4096
theorem main_any {s:Shared} {cd:Addr} {o:Obj} {vs:Array Value} {Q:Bool->Shared->Prop} (hc:env.code = .ref cd) (ho:s.heap.get? cd = some o) (hd:o.data = .fields vs) (h:∀ b,Q b s):wpAny (MH w) A (inMainModule env) Q E s:=by
 unfold inMainModule
 try dsimp only
 rw [hc]
 split
 ·exact wpAny_pure (h _)
 ·refine wpAny_bind (wpAny_fieldsOf ho hd ?_)
  cases vs.getD 18 .none with
  | str f t=>exact wpAny_bind (wpAny_askSetting (wpAny_pure (h _)))
  | _=>exact wpAny_pure (h _)
theorem set_display {es:List EX} {xs:List Str} {pos:Pos} {s:HSt} {h:Heap} {os:OsState} {cd:Addr} {o:Obj} {vs:Array Value} {Q:PR} (c:Consts es xs) (h3:3 <= xs.length) (h30:xs.length <= 30)
 (hroad:displayRoad 0 es = .unsure) (X:HR h s.T s.n) (g:∀ o,((s.T.ins s.n o).get s.n).isSome = true) (hc:env.code = .ref cd) (lt:cd < s.n) (ho:s.T.get cd = some o) (hd:o.data = .fields vs)
 (k:∀ h' es' ep' t',HR h' (s.T.ins s.n (setObj es' ep' t')) (s.n + 1)->SetHole w xs (setObj es' ep' t')->Q (.ref s.n) ⟨h',#[],s.drawn,s.toks + xs.length + xs.length,os⟩) :
 wpAny (MH w) A (eval (.Set es 0 pos) env) Q E ⟨h,#[],s.drawn,s.toks,os⟩:=by
 have ho':h.get? cd = some o:=by
  rw [X.at_ cd o lt ho]
  obtain ⟨c,d,dt,sl⟩:=o
  cases hd
  rfl
 rw [arm_eval_Set]
 refine wpAny_bind (wpAny_standAt ?_)
 refine wpAny_bind (main_any hc ho' hd fun b=>?_)
 rw [kds_star es (consts_plain c),List.map_map]
 refine kds_core (ts:=(evalEach es env).map fun t=>do let v <- t; standAt pos; pure v) (by rw [hroad]; rfl) ?_ ?_ ?_ fun led=>?_
 ·refine List.findIdx?_eq_none_iff.mpr fun x hx=>?_
  obtain ⟨t,_,rfl⟩:=List.mem_map.mp hx
  rfl
 ·rw [List.length_map,kds_len,consts_len c]; exact h30
 ·rw [List.map_map]; try rfl
 ·refine kds_all pos es _ _ (consts_all c _ _ ?_)
  rw [hroad]
  show KdsFill _ _ _ true _ _ _ _
  refine fill_strs xs _ _ (fun _=>false) 0 ?_ (by show 0 + xs.length + 1 < 4096; lia) fun h' n' sb S' hn'=>?_
  ·have:=setObjOf_fresh (knd:=sk w) led
   exact this.setOf (Heap.get?_push_size _ rfl) (by decide)
  ·rw [show h.objs.size = s.n from X.size] at sb S' ⊢
   obtain ⟨o',es',ep,t,e1,e2,e3,e4,e5,e6,e7,e8⟩:=S'
   have eo:o' = setObj es' ep t:=by
    obtain ⟨c',d',dt',sl'⟩:=o'
    obtain ⟨a1,a2,a3⟩:=e2
    simp only at a1 a2 a3 e3
    subst a1 a2 a3 e3
    rfl
   subst eo
   have X1:=X.push (g (setObj #[] 0 (.fresh 0 0 led)))
   refine k h' es' ep t ⟨by rw [sb.1,Heap.size_push,X.size],fun a u ha e=>?_⟩ fun h₂ a₂ g₂=>⟨n',⟨_,es',ep,t,g₂,e2,e3,e4,?_,e6,e7,e8⟩,hn'⟩
   ·rw [BT.get_ins _ _ _ (g _)] at e
    by_cases q:a = s.n
    ·rw [if_pos q] at e
     cases e
     rw [q,e1]; rfl
    ·rw [if_neg q] at e
     rw [sb.2 a q]
     refine X1.at_ a u ha ?_
     rw [BT.get_ins _ _ _ (g _),if_neg q]
     exact e
   ·intro k
    have:=e5 k
    simpa using this
end
noncomputable def treeOf (l:List Obj):BT:=(l.foldl (fun (x:BT × Nat) o=>(x.1.ins x.2 o,x.2 + 1)) (.nil,0)).1
noncomputable def bootT (w:World):BT:=treeOf (boot_heap w.params).objs.toList
noncomputable def sBoot (w:World):HSt:=⟨bootT w,11,boot_toks,boot_drawn⟩
noncomputable def cfg0 (w:World):Cfg:=⟨(topStub PH).cur,topΓ,default,[],sBoot w⟩
@[irreducible] noncomputable def cfgA (w:World):Option Cfg:=goH w.params 1341 (cfg0 w)
noncomputable def cfgX:Cfg:=⟨.pure (.done .next),topΓ,default,[],⟨.nil,0,0,{}⟩⟩
@[irreducible] noncomputable def cA (w:World):Cfg:=(cfgA w).getD cfgX
noncomputable def envX:Env:={ scope:=PH.main.scope,locals:=0,globals:=0,cells:=[] }
@[irreducible] noncomputable def envA (w:World):Env:=match (cA w).Γ.code with
 | .body _ e=>e
 | _=>envX
noncomputable def isCls (n:Str) (s:Stmt):Bool:=by
 cases s with
 | ClassDef m=>exact m == n
 | _=>exact false
noncomputable def clsFS:Stmt:=(PH.main.body.find? (isCls "FrenchStemmer")).getD (.Pass ⟨0,0,0,0⟩)
@[irreducible] noncomputable def bodyFS:List Stmt:=match clsFS with
 | .ClassDef _ _ _ b ..=>b
 | _=>[]
noncomputable def scopeFS:Scope:=match clsFS with
 | .ClassDef _ _ _ _ _ _ sc ..=>sc
 | _=>PH.main.scope
theorem factsA (w:World):cfgA w = some ⟨den (.body bodyFS (envA w)),(cA w).Γ,(cA w).p,(cA w).K,(cA w).s⟩ /\
 ((envA w).scope,(envA w).code,(envA w).locals,(envA w).globals,(cA w).s.n,(cA w).s.toks) = (scopeFS,Value.ref 228,225,3,230,485) /\
 (cA w).Γ.code = .body bodyFS (envA w):=by
 refine ⟨by kernel_rfl,by kernel_rfl,by kernel_rfl⟩
structure Hole where
 es:Array (Int × Value)
 ep:Nat
 t:SetTable
noncomputable def Hole.obj (x:Hole):Obj:=setObj x.es x.ep x.t
noncomputable def storeT (env:Env) (x:Str) (a:Addr):Sem Fin:=(storeName env x (.ref a)).bind fun _=>.pure (.done .next)
noncomputable def withHole (s:HSt) (l:Nat) (hl:Hole):HSt:=⟨s.T.ins s.n hl.obj,s.n + 1,s.toks + l + l,s.drawn⟩
noncomputable def afterDisp (w:World) (env:Env) (x:Str) (l:Nat) (s:HSt) (hl:Hole):HSt :=
 match runH w.params 30 ⟨storeT env x s.n,topΓ,default,[],withHole s l hl⟩ with
 | some (_,s')=>s'
 | none=>s
theorem store_wp {w:World} {os:OsState} {Γ:Ctx} {p:Pos} {env:Env} {x:Str} {a:Addr} {s s':HSt} {h:Heap} {Q:Shared->Prop} (e:runH w.params 30 ⟨storeT env x a,Γ,p,[],s⟩ = some (.next,s')) (X:HR h s.T s.n)
 (k:∀ h',HR h' s'.T s'.n->Q ⟨h',#[],s'.drawn,s'.toks,os⟩):Sem.wp (MH w) Γ (storeName env x (.ref a)) (fun _ _ s'=>Q s') (fun _ _ _=>False) p ⟨h,#[],s.drawn,s.toks,os⟩:=by
 have h1:=run_sound rfl (os:=os) (R:=fun r s'=>match r with | .ok _=>Q s' | .error _=>False) e k h X
 unfold wpF storeT at h1
 dsimp only at h1
 rw [Sem.wp_bind] at h1
 refine Sem.wp_mono _ _ _ (fun a p' s' h=>?_) (fun e p' s' h=>h) _ _ h1
 rw [Sem.wp_pure] at h
 exact h
structure DispAt (w:World) (env:Env) (x:Str) (xs:List Str) (s:HSt):Prop where
 ins:∀ o,((s.T.ins s.n o).get s.n).isSome = true
 lt:228 < s.n
 code:∃ o vs,s.T.get 228 = some o /\ o.data = .fields vs
 store:∀ hl Γ p,runH w.params 30 ⟨storeT env x s.n,Γ,p,[],withHole s xs.length hl⟩ = some (.next,afterDisp w env x xs.length s hl)
theorem disp_wp {w:World} {os:OsState} {A:Around} {env:Env} {x:Str} {np pos ap:Pos} {es:List EX} {xs:List Str} {s:HSt} {h:Heap} (c:Consts es xs) (h3:3 <= xs.length) (h30:xs.length <= 30)
 (hroad:displayRoad 0 es = .unsure) (hc:env.code = .ref 228) (D:DispAt w env x xs s) (hs:swapsWith (.Set es 0 pos) (some (.Name x np)) ap.line env = pure false) (X:HR h s.T s.n) :
 wpAny (MH w) A (exec (.Assign [.Name x np] (.Set es 0 pos) ap) env) (fun f s'=>f = .next /\ ∃ hl h',HR h' (afterDisp w env x xs.length s hl).T (afterDisp w env x xs.length s hl).n /\ SetHole w xs hl.obj /\
  s' = ⟨h',#[],(afterDisp w env x xs.length s hl).drawn,(afterDisp w env x xs.length s hl).toks,os⟩) (fun _ _=>False) ⟨h,#[],s.drawn,s.toks,os⟩:=by
 obtain ⟨o,vs,ho,hd⟩:=D.code
 refine wpAny_Assign_Name (set_display c h3 h30 hroad X D.ins hc D.lt ho hd fun h' es' ep' t' X' sh=>?_) hs
 intro Γ p hΓ
 exact store_wp (D.store ⟨es',ep',t'⟩ Γ p) X' fun h'' X''=>⟨rfl,⟨es',ep',t'⟩,h'',X'',sh,rfl⟩
theorem body_wpF {w:World} {Γ:Ctx} {b:List Stmt} {env:Env} {R:Result->Shared->Prop} {p:Pos} {s:Shared} (hb:blockStart b env = pure ()) :
 wpF (MH w) Γ (den (.body b env)) R p s = Sem.wp (MH w) Γ (execs b env) (fun f _ s'=>R (.ok f) s') (fun e p' s'=>Sem.wp (MH w) Γ (leaving env e) (fun _ _ s''=>R (.error e) s'') (fun e' _ s''=>R (.error e') s'') p' s') p s:=by
 unfold wpF
 rw [den_eq]
 show Sem.wp (MH w) Γ (do blockStart b env; let f <- (execs b env).onRaise (leaving env); (Pure.pure (PySem.Fin.done f):Sem PySem.Fin)) _ _ p s = _
 rw [hb,Sem.wp_bind',Sem.wp_pure',Sem.wp_bind',Sem.wp_onRaise]
 simp only [Sem.wp_pure']
 rfl
theorem wp_execs_cons {M:Model} {Γ:Ctx} {st:Stmt} {rest:List Stmt} {env:Env} {Q:Flow->Pos->Shared->Prop} {E:Value->Pos->Shared->Prop} {p:Pos} {s:Shared}
 (h:Sem.wp M Γ (exec st env) (fun f p' s'=>f = .next /\ Sem.wp M Γ (execs rest env) Q E p' s') E p s):Sem.wp M Γ (execs (st :: rest) env) Q E p s:=by
 rw [arm_execs_cons,Sem.wp_bind']
 refine Sem.wp_mono M Γ _ (fun f p' s' h'=>?_) (fun _ _ _ h'=>h') _ _ h
 obtain ⟨rfl,h'⟩:=h'
 exact h'
theorem disp_cons {w:World} {os:OsState} {Γ:Ctx} {A:Around} (hΓ:Γ.In A) {env:Env} {x:Str} {np pos ap:Pos} {es:List EX} {xs:List Str} {s:HSt} {rest:List Stmt} {Q:Flow->Pos->Shared->Prop} {E:Value->Pos->Shared->Prop}
 (c:Consts es xs) (h3:3 <= xs.length) (h30:xs.length <= 30) (hroad:displayRoad 0 es = .unsure) (hc:env.code = .ref 228) (D:DispAt w env x xs s) (hs:swapsWith (.Set es 0 pos) (some (.Name x np)) ap.line env = pure false)
 (k:∀ hl,SetHole w xs hl.obj->∀ p h,HR h (afterDisp w env x xs.length s hl).T (afterDisp w env x xs.length s hl).n->Sem.wp (MH w) Γ (execs rest env) Q E p ⟨h,#[],(afterDisp w env x xs.length s hl).drawn,(afterDisp w env x xs.length s hl).toks,os⟩) :
 ∀ p h,HR h s.T s.n->Sem.wp (MH w) Γ (execs (.Assign [.Name x np] (.Set es 0 pos) ap :: rest) env) Q E p ⟨h,#[],s.drawn,s.toks,os⟩:=fun p h X=>by
 refine wp_execs_cons (Sem.wp_mono _ _ _ (fun f p' s' h'=>?_) (fun _ _ _ h'=>h'.elim) _ _ (disp_wp (os:=os) (A:=A) c h3 h30 hroad hc D hs X Γ p hΓ))
 obtain ⟨rfl,hl,h2,X2,sh,rfl⟩:=h'
 exact ⟨rfl,k hl sh p' h2 X2⟩
end Mine
end
noncomputable section
open PySem PySem.W PyProof.Rows
set_option Elab.async false
set_option autoImplicit false
set_option genInjectivity false
set_option genSizeOf false
set_option maxRecDepth 100000
set_option linter.all false
set_option genInjectivity false
set_option genSizeOf false
set_option bootstrap.genMatcherCode false
namespace Mine
noncomputable abbrev T:=List Nat
inductive V where
 | none | bool (b:Bool) | int (n:Int) | str (s:T) | list (xs:List V) | tup (xs:List V)
 | dict (ks:List T) (vs:List V) | set (ss:List T) | amg (s:T) (i r:Int) | self
inductive Fld where | cur | csr | lim | lb | bra | ket | p2 | p1 | pV
structure Stem where
 cur:T
 csr:Int
 lim:Int
 lb:Int
 bra:Int
 ket:Int
 p2:Option Int
 p1:Option Int
 pV:Option Int
inductive Tab where | gv | oux | eli | kws | a0 | a1 | a2 | a3 | a4 | a5 | a6 | a7 | a8 | a9
inductive FId where | vowels | letters | parts | nouns | verbs | last | end_ | cut | less | behind | marked | first | or_ | adverb | noun | verb | rest | plain | stem | word
inductive MId where | in_grouping | go_in_grouping | in_grouping_b | go_out_grouping | out_grouping_b | eq_s | eq_s_b | find_among | find_among_b | replace_s | slice_from | slice_del
 | set_current | get_current | stemWord | elisions | prelude | mark_regions | postlude | rV | r1 | r2 | standard | i_verb | verb | residual | un_double | un_accent | stem_
inductive Lab where | l0 | l1 | l2 | l3
set_option genCtorIdx false
mutual
inductive IE where
 | con (v:V)
 | loc (i:Nat)
 | fld (i:Nat) (f:Fld)
 | amS (i:Nat)
 | amI (i:Nat)
 | amR (i:Nat)
 | tab (t:Tab)
 | short
 | bin (op:Operator) (a b:IE)
 | cmp (op:CmpOp) (a b:IE)
 | cmp2 (o1 o2:CmpOp) (a b c:IE)
 | bop (op:BoolOp) (es:IEs)
 | not_ (e:IE)
 | neg (e:IE)
 | ite (c a b:IE)
 | idx (e i:IE)
 | slc (e lo hi:IE)
 | callF (f:FId) (es:IEs)
 | callM (m:MId) (i:Nat) (es:IEs)
 | len (e:IE)
 | ord (e:IE)
 | min (a b:IE)
 | listOf (e:IE)
 | sw (e a:IE)
 | ew (e a:IE)
 | upper (e:IE)
 | list (es:IEs)
 | tup (es:IEs)
 | dict (ks:List T) (es:IEs)
inductive IEs where
 | nil
 | cons (e:IE) (es:IEs)
end
mutual
inductive IS where
 | asgn (i:Nat) (e:IE)
 | asgnF (i:Nat) (f:Fld) (e:IE)
 | asgnT (is:List Nat) (e:IE)
 | asgnTT (is:List Nat) (es:IEs)
 | augL (i:Nat) (op:Operator) (e:IE)
 | augF (i:Nat) (f:Fld) (op:Operator) (e:IE)
 | ite (c:IE) (a b:ISs)
 | whl (c:IE) (b:ISs)
 | forR (i:Nat) (a b c:IE) (body:ISs)
 | forL (i:Nat) (e:IE) (body:ISs)
 | forRepl (w i j:Nat) (ps:List (T × T))
 | try_ (b:ISs) (l:Lab)
 | raise (l:Lab)
 | ret (e:IE)
 | brk
 | cont
 | pass
 | expr (e:IE)
 | assert (c:IE)
inductive ISs where
 | nil
 | cons (s:IS) (r:ISs)
end
inductive FL where | next | brk | cont | ret (v:V) | exc (l:Lab)
section
noncomputable def lim:Nat:=100000
noncomputable def small (n:Int):Bool:=decide (-1000000000 < n) && decide (n < 1000000000)
noncomputable def adj (n:Nat) (i:Int):Nat:=if i < 0 then (i + n).toNat else min i.toNat n
noncomputable def slice (l:T) (lo hi:Option Int):T:=(l.take ((hi.map (adj l.length)).getD l.length)).drop ((lo.map (adj l.length)).getD 0)
noncomputable def pyAt {α:Type} (l:List α) (i:Int):Option α:=if i < 0 then (if 0 <= i + l.length then l[(i + l.length).toNat]? else none) else l[i.toNat]?
noncomputable def strs?:List V->Option (List T)
 | []=>some []
 | .str s :: r=>(strs? r).map (s :: ·)
 | _=>none
noncomputable def dictGet:List T->List V->T->Option V
 | k :: ks,v :: vs,x=>if k = x then some v else dictGet ks vs x
 | _,_,_=>none
noncomputable def replAll (a b:T):Nat->T->T
 | 0,l=>l
 | n + 1,l=>match l with
  | []=>[]
  | x :: r=>if a.isPrefixOf (x :: r) then b ++ replAll a b n ((x :: r).drop a.length) else x :: replAll a b n r
noncomputable def cps (s:String):T:=(Str.ofString s).cps.toList
noncomputable def am (s:String) (i r:Int):V:=.amg (cps s) i r
noncomputable abbrev Lc:=List (Option V)
abbrev QE:=V->Stem->Prop
abbrev QS:=FL->Lc->Stem->Prop
structure Tbl where
 fn:FId->List V->Stem->QE->Prop
 mt:MId->List V->Stem->QE->Prop
 tab:Tab->V
 short:V
 loose:Bool
structure Br (b:Bool) (A B:Prop):Prop where
 t:b = true->A
 f:b = false->B
structure Idx {α:Type} (o:Option α) (P:α->Prop):Prop where
 ex:∃ v,o = some v /\ P v
structure Cat (m n:T) (P:V->Prop):Prop where
 len:(m ++ n).length <= lim
 p:P (.str (m ++ n))
structure InL (a:T) (l:List V) (P:Bool->Prop):Prop where
 ex:∃ ss,strs? l = some ss /\ P (ss.contains a)
structure Must (b:Bool) (P:Prop):Prop where
 t:b = true
 p:P
structure Up (s:T) (P:V->Prop):Prop where
 ex:∃ c,s = [c] /\ (c = 117 \/ c = 105 \/ c = 121) /\ P (.str [c - 32])
structure WF (C:Tbl) (g:FId) (vs:List V) (s:Stem) (Q:QE):Prop where
 ex:C.fn g vs s Q
structure WM (C:Tbl) (g:MId) (vs:List V) (s:Stem) (Q:QE):Prop where
 ex:C.mt g vs s Q
def slfK (v:V) (P:Prop):Prop:=match v with
 | .self=>P
 | _=>False
def int1 (v:V) (P:Int->Prop):Prop:=match v with
 | .int n=>P n
 | _=>False
def str1 (v:V) (P:T->Prop):Prop:=match v with
 | .str n=>P n
 | _=>False
def list1 (v:V) (P:List V->Prop):Prop:=match v with
 | .list n=>P n
 | _=>False
def asB (v:V) (P:Bool->Prop):Prop:=match v with
 | .bool n=>P n
 | _=>False
def int2 (a b:V) (P:Int->Int->Prop):Prop:=int1 a fun m=>int1 b (P m)
def str2 (a b:V) (P:T->T->Prop):Prop:=str1 a fun m=>str1 b (P m)
def eq2 (a b:V) (P:Bool->Prop):Prop:=match a with
 | .int m=>int1 b fun n=>P (decide (m = n))
 | .str m=>str1 b fun n=>P (decide (m = n))
 | _=>False
def inK (a b:V) (P:Bool->Prop):Prop:=str1 a fun m=>match b with
 | .list l=>InL m l P
 | .set ss=>P (ss.contains m)
 | _=>False
def isK (a b:V) (P:Bool->Prop):Prop:=match b with
 | .none=>match a with
  | .none=>P true
  | .str _=>P false
  | _=>False
 | _=>False
def wBin (op:Operator) (a b:V) (P:V->Prop):Prop:=match op with
 | .Add=>match a with
  | .int m=>int1 b fun n=>P (.int (m + n))
  | .str m=>str1 b fun n=>Cat m n P
  | .list m=>list1 b fun n=>Must (decide (m.length + n.length <= lim)) (P (.list (m ++ n)))
  | _=>False
 | .Sub=>int2 a b fun m n=>P (.int (m - n))
 | .Mult=>int2 a b fun m n=>Must (small m && small n) (P (.int (m * n)))
 | .FloorDiv=>int2 a b fun m n=>Must (small n && decide (0 < n)) (P (.int (Int.fdiv m n)))
 | .Mod=>int2 a b fun m n=>Must (decide (0 < n)) (P (.int (Int.fmod m n)))
 | .Pow=>int2 a b fun m n=>Must (small m && decide (0 <= n) && decide (n < 5)) (P (.int (m ^ n.toNat)))
 | .RShift=>int2 a b fun m n=>Must (decide (0 <= m) && decide (n = 1)) (P (.int (m / 2)))
 | _=>False
def wAug (op:Operator) (a b:V) (P:V->Prop):Prop:=match op with
 | .Add=>match a with
  | .int m=>int1 b fun n=>P (.int (m + n))
  | .str m=>str1 b fun n=>Cat m n P
  | _=>False
 | .Sub=>int2 a b fun m n=>P (.int (m - n))
 | _=>False
def wCmp (op:CmpOp) (a b:V) (P:Bool->Prop):Prop:=match op with
 | .Eq=>eq2 a b P
 | .NotEq=>eq2 a b fun r=>P (!r)
 | .Lt=>int2 a b fun m n=>P (decide (m < n))
 | .LtE=>int2 a b fun m n=>P (decide (m <= n))
 | .Gt=>int2 a b fun m n=>P (decide (m > n))
 | .GtE=>int2 a b fun m n=>P (decide (m >= n))
 | .In=>inK a b P
 | .NotIn=>inK a b fun r=>P (!r)
 | .Is=>isK a b P
 | _=>False
def wIdx (a b:V) (P:V->Prop):Prop:=match a with
 | .str s=>int1 b fun i=>Idx (pyAt s i) fun c=>P (.str [c])
 | .list l=>int1 b fun i=>Idx (pyAt l i) P
 | .dict ks vs=>str1 b fun k=>Idx (dictGet ks vs k) P
 | _=>False
def bnd (v:V) (P:Option Int->Prop):Prop:=match v with
 | .none=>P none
 | .int n=>P (some n)
 | _=>False
def wSlc (a b d:V) (P:V->Prop):Prop:=str1 a fun s=>bnd b fun lo=>bnd d fun hi=>P (.str (slice s lo hi))
def wLen (a:V) (P:V->Prop):Prop:=match a with
 | .str s=>P (.int s.length)
 | .list l=>P (.int l.length)
 | _=>False
def wOrd (a:V) (P:V->Prop):Prop:=str1 a fun s=>match s with
 | [c]=>P (.int c)
 | _=>False
def wKeys (a:V) (P:V->Prop):Prop:=match a with
 | .dict ks _=>P (.list (ks.map .str))
 | _=>False
noncomputable def flat:V->Bool
 | .none | .bool _ | .int _ | .str _=>true
 | _=>false
def wOpt (o:Option V) (P:V->Prop):Prop:=match o with
 | some v=>P v
 | none=>False
def getN (s:Stem) (f:Fld) (P:V->Prop):Prop:=match s with
 | ⟨a,b,c,d,e,g,h,i,j⟩=>match f with
  | .cur=>P (.str a)
  | .csr=>P (.int b)
  | .lim=>P (.int c)
  | .lb=>P (.int d)
  | .bra=>P (.int e)
  | .ket=>P (.int g)
  | .p2=>match h with
   | some x=>P (.int x)
   | none=>False
  | .p1=>match i with
   | some x=>P (.int x)
   | none=>False
  | .pV=>match j with
   | some x=>P (.int x)
   | none=>False
def setN (s:Stem) (f:Fld) (v:V) (P:Stem->Prop):Prop:=match s with
 | ⟨a,b,c,d,e,g,h,i,j⟩=>match f with
  | .cur=>str1 v fun x=>P ⟨x,b,c,d,e,g,h,i,j⟩
  | .csr=>int1 v fun x=>P ⟨a,x,c,d,e,g,h,i,j⟩
  | .lim=>int1 v fun x=>P ⟨a,b,x,d,e,g,h,i,j⟩
  | .lb=>int1 v fun x=>P ⟨a,b,c,x,e,g,h,i,j⟩
  | .bra=>int1 v fun x=>P ⟨a,b,c,d,x,g,h,i,j⟩
  | .ket=>int1 v fun x=>P ⟨a,b,c,d,e,x,h,i,j⟩
  | .p2=>int1 v fun x=>P ⟨a,b,c,d,e,g,some x,i,j⟩
  | .p1=>int1 v fun x=>P ⟨a,b,c,d,e,g,h,some x,j⟩
  | .pV=>int1 v fun x=>P ⟨a,b,c,d,e,g,h,i,some x⟩
def wSet:Lc->List Nat->List V->(Lc->Prop)->Prop
 | l,[],vs,P=>match vs with
  | []=>P l
  | _=>False
 | l,i :: is,vs,P=>match vs with
  | v :: vs=>wSet (l.set i (some v)) is vs P
  | []=>False
noncomputable def rangeV (a b c:Int):List V:=(List.range (if c = 1 then (b - a).toNat else (a - b).toNat)).map fun (i:Nat)=>.int (a + (i:Int) * c)
def wRepl (w i j:Nat):List (T × T)->Lc->(Lc->Prop)->Prop
 | [],l,P=>P l
 | p :: r,l,P=>wOpt (((l.set i (some (.str p.1))).set j (some (.str p.2)))[w]?.join) fun v=>str1 v fun s =>
  Must (!p.1.isEmpty && !decide (p.1 = p.2) && decide (p.2.length <= 10) && decide ((replAll p.1 p.2 s.length s).length <= lim)) (wRepl w i j r (((l.set i (some (.str p.1))).set j (some (.str p.2))).set w (some (.str (replAll p.1 p.2 s.length s)))) P)
noncomputable def labEq:Lab->Lab->Bool
 | .l0,.l0 | .l1,.l1 | .l2,.l2 | .l3,.l3=>true
 | _,_=>false
abbrev WEt:=Lc->Stem->QE->Prop
abbrev WSt:=Lc->Stem->QS->Prop
def atK (Q:QE) (s:Stem) (v:V):Prop:=Q v s
def atB (Q:QE) (s:Stem) (b:Bool):Prop:=Q (.bool b) s
def binK2 (op:Operator) (x:V) (Q:QE) (y:V) (s:Stem):Prop:=wBin op x y (atK Q s)
def binK (op:Operator) (wb:WEt) (l:Lc) (Q:QE) (x:V) (s:Stem):Prop:=wb l s (binK2 op x Q)
def cmpK2 (op:CmpOp) (x:V) (Q:QE) (y:V) (s:Stem):Prop:=wCmp op x y (atB Q s)
def cmpK (op:CmpOp) (wb:WEt) (l:Lc) (Q:QE) (x:V) (s:Stem):Prop:=wb l s (cmpK2 op x Q)
def cmpB (op:CmpOp) (wd:WEt) (l:Lc) (s:Stem) (y:V) (Q:QE) (b:Bool):Prop:=Br b (wd l s (cmpK2 op y Q)) (Q (.bool false) s)
def cmpC2 (o1 o2:CmpOp) (wd:WEt) (l:Lc) (x:V) (Q:QE) (y:V) (s:Stem):Prop:=wCmp o1 x y (cmpB o2 wd l s y Q)
def cmpC (o1 o2:CmpOp) (wb wd:WEt) (l:Lc) (Q:QE) (x:V) (s:Stem):Prop:=wb l s (cmpC2 o1 o2 wd l x Q)
def fldK (f:Fld) (s:Stem) (Q:QE) (v:V):Prop:=slfK v (getN s f (atK Q s))
def amSK (s:Stem) (Q:QE) (v:V):Prop:=match v with
 | .amg x _ _=>Q (.str x) s
 | _=>False
def amIK (s:Stem) (Q:QE) (v:V):Prop:=match v with
 | .amg _ x _=>Q (.int x) s
 | _=>False
def amRK (s:Stem) (Q:QE) (v:V):Prop:=match v with
 | .amg _ _ x=>Q (.int x) s
 | _=>False
def notB (Q:QE) (s:Stem) (b:Bool):Prop:=Q (.bool !b) s
def notK (Q:QE) (x:V) (s:Stem):Prop:=asB x (notB Q s)
def negK (Q:QE) (x:V) (s:Stem):Prop:=int1 x fun n=>Q (.int (-n)) s
def iteB (wa wb:WEt) (l:Lc) (s:Stem) (Q:QE) (t:Bool):Prop:=Br t (wa l s Q) (wb l s Q)
def iteK (wa wb:WEt) (l:Lc) (Q:QE) (x:V) (s:Stem):Prop:=asB x (iteB wa wb l s Q)
def idxK2 (x:V) (Q:QE) (y:V) (s:Stem):Prop:=wIdx x y (atK Q s)
def idxK (wb:WEt) (l:Lc) (Q:QE) (x:V) (s:Stem):Prop:=wb l s (idxK2 x Q)
def slcK3 (x y:V) (Q:QE) (z:V) (s:Stem):Prop:=wSlc x y z (atK Q s)
def slcK2 (wc:WEt) (l:Lc) (x:V) (Q:QE) (y:V) (s:Stem):Prop:=wc l s (slcK3 x y Q)
def slcK (wb wc:WEt) (l:Lc) (Q:QE) (x:V) (s:Stem):Prop:=wb l s (slcK2 wc l x Q)
def callFK (C:Tbl) (g:FId) (Q:QE) (vs:List V) (s:Stem):Prop:=WF C g vs s Q
def callMK (C:Tbl) (g:MId) (Q:QE) (vs:List V) (s:Stem):Prop:=WM C g vs s Q
def callS (C:Tbl) (g:MId) (wes:Lc->Stem->(List V->Stem->Prop)->Prop) (l:Lc) (s:Stem) (Q:QE) (v:V):Prop:=slfK v (wes l s (callMK C g Q))
def lenK (Q:QE) (x:V) (s:Stem):Prop:=wLen x (atK Q s)
def ordK (Q:QE) (x:V) (s:Stem):Prop:=wOrd x (atK Q s)
def minK2 (lo:Bool) (x:V) (Q:QE) (y:V) (s:Stem):Prop:=Must lo (int2 x y fun a b=>Q (.int (if b < a then b else a)) s)
def minK (lo:Bool) (wb:WEt) (l:Lc) (Q:QE) (x:V) (s:Stem):Prop:=wb l s (minK2 lo x Q)
def keysK (lo:Bool) (Q:QE) (x:V) (s:Stem):Prop:=Must lo (wKeys x (atK Q s))
def swK2 (t:T) (Q:QE) (y:V) (s:Stem):Prop:=str1 y fun a=>Q (.bool (a.isPrefixOf t)) s
def swK1 (wb:WEt) (l:Lc) (s:Stem) (Q:QE) (t:T):Prop:=wb l s (swK2 t Q)
def swK (wb:WEt) (l:Lc) (Q:QE) (x:V) (s:Stem):Prop:=str1 x (swK1 wb l s Q)
def ewK2 (t:T) (Q:QE) (y:V) (s:Stem):Prop:=str1 y fun a=>Q (.bool (a.isSuffixOf t)) s
def ewK1 (wb:WEt) (l:Lc) (s:Stem) (Q:QE) (t:T):Prop:=wb l s (ewK2 t Q)
def ewK (wb:WEt) (l:Lc) (Q:QE) (x:V) (s:Stem):Prop:=str1 x (ewK1 wb l s Q)
def upK (Q:QE) (x:V) (s:Stem):Prop:=str1 x fun t=>Up t (atK Q s)
def listK (Q:QE) (vs:List V) (s:Stem):Prop:=Q (.list vs) s
def tupK (Q:QE) (vs:List V) (s:Stem):Prop:=Q (.tup vs) s
def dictK (ks:List T) (Q:QE) (vs:List V) (s:Stem):Prop:=Must (vs.all flat) (Q (.dict ks vs) s)
def consK2 (x:V) (Q:List V->Stem->Prop) (xs:List V) (s:Stem):Prop:=Q (x :: xs) s
def consK (wr:Lc->Stem->(List V->Stem->Prop)->Prop) (l:Lc) (Q:List V->Stem->Prop) (x:V) (s:Stem):Prop:=wr l s (consK2 x Q)
def bopB (op:BoolOp) (last:Bool) (wr:WEt) (l:Lc) (s:Stem) (Q:QE) (b:Bool):Prop:=match last with
 | true=>Q (.bool b) s
 | false=>match op with
  | .And=>Br b (wr l s Q) (Q (.bool false) s)
  | .Or=>Br b (Q (.bool true) s) (wr l s Q)
def bopK (op:BoolOp) (last:Bool) (wr:WEt) (l:Lc) (Q:QE) (x:V) (s:Stem):Prop:=asB x (bopB op last wr l s Q)
noncomputable def IEs.isNil:IEs->Bool
 | .nil=>true
 | .cons _ _=>false
mutual
def wpE (C:Tbl):IE->Lc->Stem->QE->Prop
 | .con v,_,s,Q=>Q v s
 | .loc i,l,s,Q=>wOpt (l[i]?.join) (atK Q s)
 | .fld i f,l,s,Q=>wOpt (l[i]?.join) (fldK f s Q)
 | .amS i,l,s,Q=>wOpt (l[i]?.join) (amSK s Q)
 | .amI i,l,s,Q=>wOpt (l[i]?.join) (amIK s Q)
 | .amR i,l,s,Q=>wOpt (l[i]?.join) (amRK s Q)
 | .tab t,_,s,Q=>Q (C.tab t) s
 | .short,_,s,Q=>Q C.short s
 | .bin op a b,l,s,Q=>wpE C a l s (binK op (wpE C b) l Q)
 | .cmp op a b,l,s,Q=>wpE C a l s (cmpK op (wpE C b) l Q)
 | .cmp2 o1 o2 a b d,l,s,Q=>wpE C a l s (cmpC o1 o2 (wpE C b) (wpE C d) l Q)
 | .bop op es,l,s,Q=>wpB C op es l s Q
 | .not_ e,l,s,Q=>wpE C e l s (notK Q)
 | .neg e,l,s,Q=>wpE C e l s (negK Q)
 | .ite c a b,l,s,Q=>wpE C c l s (iteK (wpE C a) (wpE C b) l Q)
 | .idx e i,l,s,Q=>wpE C e l s (idxK (wpE C i) l Q)
 | .slc e a b,l,s,Q=>wpE C e l s (slcK (wpE C a) (wpE C b) l Q)
 | .callF f es,l,s,Q=>wpEs C es l s (callFK C f Q)
 | .callM m i es,l,s,Q=>wOpt (l[i]?.join) (callS C m (wpEs C es) l s Q)
 | .len e,l,s,Q=>wpE C e l s (lenK Q)
 | .ord e,l,s,Q=>wpE C e l s (ordK Q)
 | .min a b,l,s,Q=>wpE C a l s (minK C.loose (wpE C b) l Q)
 | .listOf e,l,s,Q=>wpE C e l s (keysK C.loose Q)
 | .sw e a,l,s,Q=>wpE C e l s (swK (wpE C a) l Q)
 | .ew e a,l,s,Q=>wpE C e l s (ewK (wpE C a) l Q)
 | .upper e,l,s,Q=>wpE C e l s (upK Q)
 | .list es,l,s,Q=>wpEs C es l s (listK Q)
 | .tup es,l,s,Q=>wpEs C es l s (tupK Q)
 | .dict ks es,l,s,Q=>wpEs C es l s (dictK ks Q)
def wpEs (C:Tbl):IEs->Lc->Stem->(List V->Stem->Prop)->Prop
 | .nil,_,s,Q=>Q [] s
 | .cons e es,l,s,Q=>wpE C e l s (consK (wpEs C es) l Q)
def wpB (C:Tbl) (op:BoolOp):IEs->Lc->Stem->QE->Prop
 | .nil,_,_,_=>False
 | .cons e es,l,s,Q=>wpE C e l s (bopK op es.isNil (wpB C op es) l Q)
end
def loopK (rec:WSt) (Q:QS) (f:FL) (l:Lc) (s:Stem):Prop:=match f with
 | .next=>rec l s Q
 | .cont=>rec l s Q
 | .brk=>Q .next l s
 | .ret v=>Q (.ret v) l s
 | .exc k=>Q (.exc k) l s
def whlB (rec wb:WSt) (l:Lc) (s:Stem) (Q:QS) (t:Bool):Prop:=Br t (wb l s (loopK rec Q)) (Q .next l s)
def whlK (rec wb:WSt) (l:Lc) (Q:QS) (x:V) (s:Stem):Prop:=asB x (whlB rec wb l s Q)
def wW (wc:WEt) (wb:WSt):Nat->Lc->Stem->QS->Prop
 | 0,_,_,_=>False
 | n + 1,l,s,Q=>wc l s (whlK (wW wc wb n) wb l Q)
structure WW (wc:WEt) (wb:WSt) (n:Nat) (l:Lc) (s:Stem) (Q:QS):Prop where
 ex:wW wc wb n l s Q
def wL (i:Nat) (wb:WSt):List V->Lc->Stem->QS->Prop
 | [],l,s,Q=>Q .next l s
 | x :: xs,l,s,Q=>wb (l.set i (some x)) s (loopK (wL i wb xs) Q)
structure WL (i:Nat) (wb:WSt) (xs:List V) (l:Lc) (s:Stem) (Q:QS):Prop where
 ex:wL i wb xs l s Q
def nextK (l:Lc) (Q:QS) (s:Stem):Prop:=Q .next l s
def nextL (Q:QS) (s:Stem) (l:Lc):Prop:=Q .next l s
def asgK (i:Nat) (l:Lc) (Q:QS) (v:V) (s:Stem):Prop:=Q .next (l.set i (some v)) s
def asgF2 (f:Fld) (l:Lc) (Q:QS) (v:V) (s:Stem):Prop:=setN s f v (nextK l Q)
def asgF1 (f:Fld) (we:WEt) (l:Lc) (s:Stem) (Q:QS) (v:V):Prop:=slfK v (we l s (asgF2 f l Q))
def asgTK (is:List Nat) (l:Lc) (Q:QS) (v:V) (s:Stem):Prop:=match v with
 | .tup vs=>wSet l is vs (nextL Q s)
 | _=>False
def asgTTK (is:List Nat) (l:Lc) (Q:QS) (vs:List V) (s:Stem):Prop:=wSet l is vs (nextL Q s)
def augL3 (i:Nat) (l:Lc) (s:Stem) (Q:QS) (u:V):Prop:=Q .next (l.set i (some u)) s
def augL2 (op:Operator) (i:Nat) (l:Lc) (a:V) (Q:QS) (v:V) (s:Stem):Prop:=wAug op a v (augL3 i l s Q)
def augL1 (op:Operator) (i:Nat) (we:WEt) (l:Lc) (s:Stem) (Q:QS) (a:V):Prop:=we l s (augL2 op i l a Q)
def augF4 (f:Fld) (l:Lc) (s:Stem) (Q:QS) (u:V):Prop:=setN s f u (nextK l Q)
def augF3 (f:Fld) (op:Operator) (l:Lc) (a:V) (Q:QS) (v:V) (s:Stem):Prop:=wAug op a v (augF4 f l s Q)
def augF2 (f:Fld) (op:Operator) (we:WEt) (l:Lc) (s:Stem) (Q:QS) (a:V):Prop:=we l s (augF3 f op l a Q)
def augF1 (f:Fld) (op:Operator) (we:WEt) (l:Lc) (s:Stem) (Q:QS) (v:V):Prop:=slfK v (getN s f (augF2 f op we l s Q))
def brS (wa wb:WSt) (l:Lc) (s:Stem) (Q:QS) (t:Bool):Prop:=Br t (wa l s Q) (wb l s Q)
def iteS (wa wb:WSt) (l:Lc) (Q:QS) (x:V) (s:Stem):Prop:=asB x (brS wa wb l s Q)
def forR3 (lo:Bool) (i:Nat) (wb:WSt) (l:Lc) (x y:V) (Q:QS) (z:V) (s:Stem):Prop:=int1 x fun p=>int1 y fun q=>int1 z fun r =>
 Must (lo && small p && small q && (decide (r = 1) || decide (r = -1))) (WL i wb (rangeV p q r) l s Q)
def forR2 (lo:Bool) (i:Nat) (w3:WEt) (wb:WSt) (l:Lc) (x:V) (Q:QS) (y:V) (s:Stem):Prop:=w3 l s (forR3 lo i wb l x y Q)
def forR1 (lo:Bool) (i:Nat) (w2 w3:WEt) (wb:WSt) (l:Lc) (Q:QS) (x:V) (s:Stem):Prop:=w2 l s (forR2 lo i w3 wb l x Q)
def forLK (lo:Bool) (i:Nat) (wb:WSt) (l:Lc) (Q:QS) (x:V) (s:Stem):Prop:=list1 x fun vs=>Must lo (WL i wb vs l s Q)
def tryK (k:Lab) (Q:QS) (f:FL) (l:Lc) (s:Stem):Prop:=match f with
 | .exc k'=>match labEq k' k with
  | true=>Q .next l s
  | false=>False
 | .next=>Q .next l s
 | .cont=>Q .cont l s
 | .brk=>Q .brk l s
 | .ret v=>Q (.ret v) l s
def retK (l:Lc) (Q:QS) (v:V) (s:Stem):Prop:=Q (.ret v) l s
def exprK (l:Lc) (Q:QS) (v:V) (s:Stem):Prop:=match flat v with
 | true=>Q .next l s
 | false=>False
def assB (l:Lc) (s:Stem) (Q:QS) (b:Bool):Prop:=Must b (Q .next l s)
def assK (l:Lc) (Q:QS) (v:V) (s:Stem):Prop:=asB v (assB l s Q)
def seqK (wr:WSt) (Q:QS) (f:FL) (l:Lc) (s:Stem):Prop:=match f with
 | .next=>wr l s Q
 | .cont=>Q .cont l s
 | .brk=>Q .brk l s
 | .ret v=>Q (.ret v) l s
 | .exc k=>Q (.exc k) l s
mutual
def wpS (C:Tbl) (n:Nat):IS->Lc->Stem->QS->Prop
 | .asgn i e,l,s,Q=>wpE C e l s (asgK i l Q)
 | .asgnF i f e,l,s,Q=>wOpt (l[i]?.join) (asgF1 f (wpE C e) l s Q)
 | .asgnT is e,l,s,Q=>wpE C e l s (asgTK is l Q)
 | .asgnTT is es,l,s,Q=>wpEs C es l s (asgTTK is l Q)
 | .augL i op e,l,s,Q=>wOpt (l[i]?.join) (augL1 op i (wpE C e) l s Q)
 | .augF i f op e,l,s,Q=>wOpt (l[i]?.join) (augF1 f op (wpE C e) l s Q)
 | .ite c a b,l,s,Q=>wpE C c l s (iteS (wpSs C n a) (wpSs C n b) l Q)
 | .whl c b,l,s,Q=>WW (wpE C c) (wpSs C n b) n l s Q
 | .forR i a b c body,l,s,Q=>wpE C a l s (forR1 C.loose i (wpE C b) (wpE C c) (wpSs C n body) l Q)
 | .forL i e body,l,s,Q=>wpE C e l s (forLK C.loose i (wpSs C n body) l Q)
 | .forRepl w i j ps,l,s,Q=>Must (!C.loose) (wRepl w i j ps l (nextL Q s))
 | .try_ b k,l,s,Q=>wpSs C n b l s (tryK k Q)
 | .raise k,l,s,Q=>Q (.exc k) l s
 | .ret e,l,s,Q=>wpE C e l s (retK l Q)
 | .brk,l,s,Q=>Q .brk l s
 | .cont,l,s,Q=>Q .cont l s
 | .pass,l,s,Q=>Q .next l s
 | .expr e,l,s,Q=>wpE C e l s (exprK l Q)
 | .assert e,l,s,Q=>wpE C e l s (assK l Q)
def wpSs (C:Tbl) (n:Nat):ISs->Lc->Stem->QS->Prop
 | .nil,l,s,Q=>Q .next l s
 | .cons a r,l,s,Q=>wpS C n a l s (seqK (wpSs C n r) Q)
end
structure IFn where
 np:Nat
 nl:Nat
 body:ISs
def runK (P:QE) (f:FL) (l:Lc) (s:Stem):Prop:=match f with
 | .ret v=>P v s
 | .next=>P .none s
 | _=>False
def runI (C:Tbl) (n:Nat) (f:IFn) (args:List V) (s:Stem) (P:QE):Prop :=
 Must (Nat.beq args.length f.np) (wpSs C n f.body (args.map some ++ List.replicate (f.nl - f.np) none) s (runK P))
end
end Mine
end
noncomputable section
open PySem PySem.W PyProof.Rows
set_option Elab.async false
set_option autoImplicit false
set_option maxRecDepth 100000
set_option linter.all false
set_option genInjectivity false
set_option genSizeOf false
set_option bootstrap.genMatcherCode false
namespace Mine
noncomputable abbrev cI (n:Int):IE:=.con (.int n)
noncomputable abbrev cs (s:String):IE:=.con (.str (cps s))
noncomputable abbrev f0 (f:Fld):IE:=.fld 0 f
noncomputable def es:List IE->IEs
 | []=>.nil
 | e :: r=>.cons e (es r)
noncomputable def ss:List IS->ISs
 | []=>.nil
 | e :: r=>.cons e (ss r)
noncomputable abbrev sl (s:String):IS:=.expr (.callM .slice_from 0 (es [cs s]))
noncomputable abbrev sd:IS:=.expr (.callM .slice_del 0 (es []))
noncomputable def ir_in_grouping:IFn:=⟨2,2,(ss [.ite (.cmp .GtE (f0 .csr) (f0 .lim)) (ss [.ret (.con (.bool false))]) (ss []),.ite (.cmp .NotIn (.idx (f0 .cur) (f0 .csr)) (.loc 1)) (ss [.ret (.con (.bool false))]) (ss []),.augF 0 .csr .Add (cI 1),.ret (.con (.bool true))])⟩
noncomputable def ir_go_in_grouping:IFn:=⟨2,2,(ss [.whl (.cmp .Lt (f0 .csr) (f0 .lim)) (ss [.ite (.cmp .NotIn (.idx (f0 .cur) (f0 .csr)) (.loc 1)) (ss [.ret (.con (.bool true))]) (ss []),.augF 0 .csr .Add (cI 1)]),.ret (.con (.bool false))])⟩
noncomputable def ir_in_grouping_b:IFn:=⟨2,2,(ss [.ite (.cmp .LtE (f0 .csr) (f0 .lb)) (ss [.ret (.con (.bool false))]) (ss []),.ite (.cmp .NotIn (.idx (f0 .cur) (.bin .Sub (f0 .csr) (cI 1))) (.loc 1)) (ss [.ret (.con (.bool false))]) (ss []),.augF 0 .csr .Sub (cI 1),.ret (.con (.bool true))])⟩
noncomputable def ir_go_out_grouping:IFn:=⟨2,2,(ss [.whl (.cmp .Lt (f0 .csr) (f0 .lim)) (ss [.ite (.cmp .In (.idx (f0 .cur) (f0 .csr)) (.loc 1)) (ss [.ret (.con (.bool true))]) (ss []),.augF 0 .csr .Add (cI 1)]),.ret (.con (.bool false))])⟩
noncomputable def ir_out_grouping_b:IFn:=⟨2,2,(ss [.ite (.cmp .LtE (f0 .csr) (f0 .lb)) (ss [.ret (.con (.bool false))]) (ss []),.ite (.cmp .NotIn (.idx (f0 .cur) (.bin .Sub (f0 .csr) (cI 1))) (.loc 1)) (ss [.augF 0 .csr .Sub (cI 1),.ret (.con (.bool true))]) (ss []),.ret (.con (.bool false))])⟩
noncomputable def ir_eq_s:IFn:=⟨2,2,(ss [.ite (.sw (.slc (f0 .cur) (f0 .csr) (f0 .lim)) (.loc 1)) (ss [.augF 0 .csr .Add (.len (.loc 1)),.ret (.con (.bool true))]) (ss []),.ret (.con (.bool false))])⟩
noncomputable def ir_eq_s_b:IFn:=⟨2,2,(ss [.ite (.ew (.slc (f0 .cur) (f0 .lb) (f0 .csr)) (.loc 1)) (ss [.augF 0 .csr .Sub (.len (.loc 1)),.ret (.con (.bool true))]) (ss []),.ret (.con (.bool false))])⟩
noncomputable def ir_find_among:IFn:=⟨2,14,(ss [.asgn 2 (cI 0),.asgn 3 (.len (.loc 1)),.asgn 4 (f0 .csr),.asgn 5 (f0 .lim),.asgn 6 (cI 0),.asgn 7 (cI 0),.asgn 8 (.con (.bool false)),.whl (.con (.bool true)) (ss [.asgn 9 (.bin .Add (.loc 2) (.bin .RShift (.bin .Sub (.loc 3) (.loc 2)) (cI 1))),.asgn 10 (cI 0),.asgn 11 (.min (.loc 6) (.loc 7)),.asgn 12 (.idx (.loc 1) (.loc 9)),.forR 13 (.loc 11) (.len (.amS 12)) (cI 1) (ss [.ite (.cmp .Eq (.bin .Add (.loc 4) (.loc 11)) (.loc 5)) (ss [.asgn 10 (.neg (cI 1)),.brk]) (ss []),.asgn 10 (.bin .Sub (.ord (.idx (f0 .cur) (.bin .Add (.loc 4) (.loc 11)))) (.ord (.idx (.amS 12) (.loc 13)))),.ite (.cmp .NotEq (.loc 10) (cI 0)) (ss [.brk]) (ss []),.augL 11 .Add (cI 1)]),.ite (.cmp .Lt (.loc 10) (cI 0)) (ss [.asgn 3 (.loc 9),.asgn 7 (.loc 11)]) (ss [.asgn 2 (.loc 9),.asgn 6 (.loc 11)]),.ite (.cmp .LtE (.bin .Sub (.loc 3) (.loc 2)) (cI 1)) (ss [.ite (.cmp .Gt (.loc 2) (cI 0)) (ss [.brk]) (ss []),.ite (.cmp .Eq (.loc 3) (.loc 2)) (ss [.brk]) (ss []),.ite (.loc 8) (ss [.brk]) (ss []),.asgn 8 (.con (.bool true))]) (ss [])]),.whl (.con (.bool true)) (ss [.asgn 12 (.idx (.loc 1) (.loc 2)),.ite (.cmp .GtE (.loc 6) (.len (.amS 12))) (ss [.asgnF 0 .csr (.bin .Add (.loc 4) (.len (.amS 12))),.ret (.amR 12)]) (ss []),.asgn 2 (.amI 12),.ite (.cmp .Lt (.loc 2) (cI 0)) (ss [.ret (cI 0)]) (ss [])]),.ret (.neg (cI 1))])⟩
noncomputable def ir_find_among_b:IFn:=⟨2,14,(ss [.asgn 2 (cI 0),.asgn 3 (.len (.loc 1)),.asgn 4 (f0 .csr),.asgn 5 (f0 .lb),.asgn 6 (cI 0),.asgn 7 (cI 0),.asgn 8 (.con (.bool false)),.whl (.con (.bool true)) (ss [.asgn 9 (.bin .Add (.loc 2) (.bin .RShift (.bin .Sub (.loc 3) (.loc 2)) (cI 1))),.asgn 10 (cI 0),.asgn 11 (.min (.loc 6) (.loc 7)),.asgn 12 (.idx (.loc 1) (.loc 9)),.forR 13 (.bin .Sub (.bin .Sub (.len (.amS 12)) (cI 1)) (.loc 11)) (.neg (cI 1)) (.neg (cI 1)) (ss [.ite (.cmp .Eq (.bin .Sub (.loc 4) (.loc 11)) (.loc 5)) (ss [.asgn 10 (.neg (cI 1)),.brk]) (ss []),.asgn 10 (.bin .Sub (.ord (.idx (f0 .cur) (.bin .Sub (.bin .Sub (.loc 4) (cI 1)) (.loc 11)))) (.ord (.idx (.amS 12) (.loc 13)))),.ite (.cmp .NotEq (.loc 10) (cI 0)) (ss [.brk]) (ss []),.augL 11 .Add (cI 1)]),.ite (.cmp .Lt (.loc 10) (cI 0)) (ss [.asgn 3 (.loc 9),.asgn 7 (.loc 11)]) (ss [.asgn 2 (.loc 9),.asgn 6 (.loc 11)]),.ite (.cmp .LtE (.bin .Sub (.loc 3) (.loc 2)) (cI 1)) (ss [.ite (.cmp .Gt (.loc 2) (cI 0)) (ss [.brk]) (ss []),.ite (.cmp .Eq (.loc 3) (.loc 2)) (ss [.brk]) (ss []),.ite (.loc 8) (ss [.brk]) (ss []),.asgn 8 (.con (.bool true))]) (ss [])]),.whl (.con (.bool true)) (ss [.asgn 12 (.idx (.loc 1) (.loc 2)),.ite (.cmp .GtE (.loc 6) (.len (.amS 12))) (ss [.asgnF 0 .csr (.bin .Sub (.loc 4) (.len (.amS 12))),.ret (.amR 12)]) (ss []),.asgn 2 (.amI 12),.ite (.cmp .Lt (.loc 2) (cI 0)) (ss [.ret (cI 0)]) (ss [])]),.ret (.neg (cI 1))])⟩
noncomputable def ir_replace_s:IFn:=⟨4,5,(ss [.asgn 4 (.bin .Sub (.len (.loc 3)) (.bin .Sub (.loc 2) (.loc 1))),.asgnF 0 .cur (.bin .Add (.bin .Add (.slc (f0 .cur) (cI 0) (.loc 1)) (.loc 3)) (.slc (f0 .cur) (.loc 2) (.con .none))),.augF 0 .lim .Add (.loc 4),.ite (.cmp .GtE (f0 .csr) (.loc 2)) (ss [.augF 0 .csr .Add (.loc 4)]) (ss [.ite (.cmp .Gt (f0 .csr) (.loc 1)) (ss [.asgnF 0 .csr (.loc 1)]) (ss [])]),.ret (.loc 4)])⟩
noncomputable def ir_slice_from:IFn:=⟨2,2,(ss [.assert (.cmp .GtE (f0 .bra) (cI 0)),.assert (.cmp .LtE (f0 .bra) (f0 .ket)),.assert (.cmp .LtE (f0 .ket) (f0 .lim)),.assert (.cmp .LtE (f0 .lim) (.len (f0 .cur))),.expr (.callM .replace_s 0 (es [(f0 .bra),(f0 .ket),(.loc 1)])),.asgnF 0 .ket (.bin .Add (f0 .bra) (.len (.loc 1)))])⟩
noncomputable def ir_slice_del:IFn:=⟨1,1,(ss [.ret (.callM .slice_from 0 (es [(cs "")]))])⟩
noncomputable def ir_set_current:IFn:=⟨2,2,(ss [.asgnF 0 .cur (.loc 1),.asgnF 0 .csr (cI 0),.asgnF 0 .lim (.len (f0 .cur)),.asgnF 0 .lb (cI 0),.asgnF 0 .bra (f0 .csr),.asgnF 0 .ket (f0 .lim)])⟩
noncomputable def ir_get_current:IFn:=⟨1,1,(ss [.ret (f0 .cur)])⟩
noncomputable def ir_stemWord:IFn:=⟨2,2,(ss [.expr (.callM .set_current 0 (es [(.loc 1)])),.expr (.callM .stem_ 0 (es [])),.ret (.callM .get_current 0 (es []))])⟩
noncomputable def ir_elisions:IFn:=⟨1,1,(ss [.asgnF 0 .bra (f0 .csr),.whl (.con (.bool true)) (ss [.try_ (ss [.ite (.not_ (.callM .in_grouping 0 (es [(.tab .eli)]))) (ss [.raise .l0]) (ss []),.brk]) .l0,.ite (.not_ (.callM .eq_s 0 (es [(cs "qu")]))) (ss [.ret (.con (.bool false))]) (ss []),.brk]),.ite (.bop .Or (es [(.cmp .Eq (f0 .csr) (f0 .lim)),(.cmp .NotEq (.idx (f0 .cur) (f0 .csr)) (cs "'"))])) (ss [.ret (.con (.bool false))]) (ss []),.augF 0 .csr .Add (cI 1),.asgnF 0 .ket (f0 .csr),.ite (.cmp .GtE (f0 .csr) (f0 .lim)) (ss [.ret (.con (.bool false))]) (ss []),sd,.ret (.con (.bool true))])⟩
noncomputable def ir_prelude:IFn:=⟨1,5,(ss [.whl (.con (.bool true)) (ss [.asgn 1 (f0 .csr),.try_ (ss [.whl (.con (.bool true)) (ss [.asgn 2 (f0 .csr),.try_ (ss [.whl (.con (.bool true)) (ss [.asgn 3 (f0 .csr),.try_ (ss [.ite (.not_ (.callM .in_grouping 0 (es [(.tab .gv)]))) (ss [.raise .l2]) (ss []),.asgnF 0 .bra (f0 .csr),.whl (.con (.bool true)) (ss [.asgn 4 (f0 .csr),.try_ (ss [.ite (.bop .Or (es [(.cmp .Eq (f0 .csr) (f0 .lim)),(.cmp .NotEq (.idx (f0 .cur) (f0 .csr)) (cs "u"))])) (ss [.raise .l3]) (ss []),.augF 0 .csr .Add (cI 1),.asgnF 0 .ket (f0 .csr),.ite (.not_ (.callM .in_grouping 0 (es [(.tab .gv)]))) (ss [.raise .l3]) (ss []),sl "U",.brk]) .l3,.asgnF 0 .csr (.loc 4),.try_ (ss [.ite (.bop .Or (es [(.cmp .Eq (f0 .csr) (f0 .lim)),(.cmp .NotEq (.idx (f0 .cur) (f0 .csr)) (cs "i"))])) (ss [.raise .l3]) (ss []),.augF 0 .csr .Add (cI 1),.asgnF 0 .ket (f0 .csr),.ite (.not_ (.callM .in_grouping 0 (es [(.tab .gv)]))) (ss [.raise .l3]) (ss []),sl "I",.brk]) .l3,.asgnF 0 .csr (.loc 4),.ite (.bop .Or (es [(.cmp .Eq (f0 .csr) (f0 .lim)),(.cmp .NotEq (.idx (f0 .cur) (f0 .csr)) (cs "y"))])) (ss [.raise .l2]) (ss []),.augF 0 .csr .Add (cI 1),.asgnF 0 .ket (f0 .csr),sl "Y",.brk]),.brk]) .l2,.asgnF 0 .csr (.loc 3),.try_ (ss [.asgnF 0 .bra (f0 .csr),.ite (.bop .Or (es [(.cmp .Eq (f0 .csr) (f0 .lim)),(.cmp .NotEq (.idx (f0 .cur) (f0 .csr)) (cs "ë"))])) (ss [.raise .l2]) (ss []),.augF 0 .csr .Add (cI 1),.asgnF 0 .ket (f0 .csr),sl "He",.brk]) .l2,.asgnF 0 .csr (.loc 3),.try_ (ss [.asgnF 0 .bra (f0 .csr),.ite (.bop .Or (es [(.cmp .Eq (f0 .csr) (f0 .lim)),(.cmp .NotEq (.idx (f0 .cur) (f0 .csr)) (cs "ï"))])) (ss [.raise .l2]) (ss []),.augF 0 .csr .Add (cI 1),.asgnF 0 .ket (f0 .csr),sl "Hi",.brk]) .l2,.asgnF 0 .csr (.loc 3),.try_ (ss [.asgnF 0 .bra (f0 .csr),.ite (.bop .Or (es [(.cmp .Eq (f0 .csr) (f0 .lim)),(.cmp .NotEq (.idx (f0 .cur) (f0 .csr)) (cs "y"))])) (ss [.raise .l2]) (ss []),.augF 0 .csr .Add (cI 1),.asgnF 0 .ket (f0 .csr),.ite (.not_ (.callM .in_grouping 0 (es [(.tab .gv)]))) (ss [.raise .l2]) (ss []),sl "Y",.brk]) .l2,.asgnF 0 .csr (.loc 3),.ite (.bop .Or (es [(.cmp .Eq (f0 .csr) (f0 .lim)),(.cmp .NotEq (.idx (f0 .cur) (f0 .csr)) (cs "q"))])) (ss [.raise .l1]) (ss []),.augF 0 .csr .Add (cI 1),.asgnF 0 .bra (f0 .csr),.ite (.bop .Or (es [(.cmp .Eq (f0 .csr) (f0 .lim)),(.cmp .NotEq (.idx (f0 .cur) (f0 .csr)) (cs "u"))])) (ss [.raise .l1]) (ss []),.augF 0 .csr .Add (cI 1),.asgnF 0 .ket (f0 .csr),sl "U",.brk]),.asgnF 0 .csr (.loc 2),.brk]) .l1,.asgnF 0 .csr (.loc 2),.ite (.cmp .GtE (f0 .csr) (f0 .lim)) (ss [.raise .l0]) (ss []),.augF 0 .csr .Add (cI 1)]),.cont]) .l0,.asgnF 0 .csr (.loc 1),.brk]),.ret (.con (.bool true))])⟩
noncomputable def ir_mark_regions:IFn:=⟨1,5,(ss [.asgnF 0 .pV (f0 .lim),.asgnF 0 .p1 (f0 .lim),.asgnF 0 .p2 (f0 .lim),.asgn 1 (f0 .csr),.try_ (ss [.whl (.con (.bool true)) (ss [.asgn 2 (f0 .csr),.try_ (ss [.ite (.not_ (.callM .in_grouping 0 (es [(.tab .gv)]))) (ss [.raise .l1]) (ss []),.ite (.not_ (.callM .in_grouping 0 (es [(.tab .gv)]))) (ss [.raise .l1]) (ss []),.ite (.cmp .GtE (f0 .csr) (f0 .lim)) (ss [.raise .l1]) (ss []),.augF 0 .csr .Add (cI 1),.brk]) .l1,.asgnF 0 .csr (.loc 2),.try_ (ss [.asgn 3 (.callM .find_among 0 (es [(.tab .a0)])),.ite (.cmp .Eq (.loc 3) (cI 0)) (ss [.raise .l1]) (ss []),.ite (.cmp .Eq (.loc 3) (cI 1)) (ss [.ite (.not_ (.callM .in_grouping 0 (es [(.tab .gv)]))) (ss [.raise .l1]) (ss [])]) (ss []),.brk]) .l1,.asgnF 0 .csr (.loc 2),.ite (.cmp .GtE (f0 .csr) (f0 .lim)) (ss [.raise .l0]) (ss []),.augF 0 .csr .Add (cI 1),.ite (.not_ (.callM .go_out_grouping 0 (es [(.tab .gv)]))) (ss [.raise .l0]) (ss []),.augF 0 .csr .Add (cI 1),.brk]),.asgnF 0 .pV (f0 .csr)]) .l0,.asgnF 0 .csr (.loc 1),.asgn 4 (f0 .csr),.try_ (ss [.ite (.not_ (.callM .go_out_grouping 0 (es [(.tab .gv)]))) (ss [.raise .l0]) (ss []),.augF 0 .csr .Add (cI 1),.ite (.not_ (.callM .go_in_grouping 0 (es [(.tab .gv)]))) (ss [.raise .l0]) (ss []),.augF 0 .csr .Add (cI 1),.asgnF 0 .p1 (f0 .csr),.ite (.not_ (.callM .go_out_grouping 0 (es [(.tab .gv)]))) (ss [.raise .l0]) (ss []),.augF 0 .csr .Add (cI 1),.ite (.not_ (.callM .go_in_grouping 0 (es [(.tab .gv)]))) (ss [.raise .l0]) (ss []),.augF 0 .csr .Add (cI 1),.asgnF 0 .p2 (f0 .csr)]) .l0,.asgnF 0 .csr (.loc 4),.ret (.con (.bool true))])⟩
noncomputable def ir_postlude:IFn:=⟨1,3,(ss [.whl (.con (.bool true)) (ss [.asgn 1 (f0 .csr),.try_ (ss [.asgnF 0 .bra (f0 .csr),.asgn 2 (.callM .find_among 0 (es [(.tab .a1)])),.asgnF 0 .ket (f0 .csr),.ite (.cmp .Eq (.loc 2) (cI 1)) (ss [sl "i"]) (ss [.ite (.cmp .Eq (.loc 2) (cI 2)) (ss [sl "u"]) (ss [.ite (.cmp .Eq (.loc 2) (cI 3)) (ss [sl "y"]) (ss [.ite (.cmp .Eq (.loc 2) (cI 4)) (ss [sl "ë"]) (ss [.ite (.cmp .Eq (.loc 2) (cI 5)) (ss [sl "ï"]) (ss [.ite (.cmp .Eq (.loc 2) (cI 6)) (ss [sd]) (ss [.ite (.cmp .GtE (f0 .csr) (f0 .lim)) (ss [.raise .l0]) (ss []),.augF 0 .csr .Add (cI 1)])])])])])]),.cont]) .l0,.asgnF 0 .csr (.loc 1),.brk]),.ret (.con (.bool true))])⟩
noncomputable def ir_rV:IFn:=⟨1,1,(ss [.ret (.cmp .LtE (f0 .pV) (f0 .csr))])⟩
noncomputable def ir_r1:IFn:=⟨1,1,(ss [.ret (.cmp .LtE (f0 .p1) (f0 .csr))])⟩
noncomputable def ir_r2:IFn:=⟨1,1,(ss [.ret (.cmp .LtE (f0 .p2) (f0 .csr))])⟩
noncomputable def ir_standard:IFn:=⟨1,13,(ss [.asgnF 0 .ket (f0 .csr),.asgn 1 (.callM .find_among_b 0 (es [(.tab .a4)])),.ite (.cmp .Eq (.loc 1) (cI 0)) (ss [.ret (.con (.bool false))]) (ss []),.asgnF 0 .bra (f0 .csr),.ite (.cmp .Eq (.loc 1) (cI 1)) (ss [.ite (.not_ (.callM .r2 0 (es []))) (ss [.ret (.con (.bool false))]) (ss []),sd]) (ss [.ite (.cmp .Eq (.loc 1) (cI 2)) (ss [.ite (.not_ (.callM .r2 0 (es []))) (ss [.ret (.con (.bool false))]) (ss []),sd,.asgn 2 (.bin .Sub (f0 .lim) (f0 .csr)),.try_ (ss [.asgnF 0 .ket (f0 .csr),.ite (.not_ (.callM .eq_s_b 0 (es [(cs "ic")]))) (ss [.asgnF 0 .csr (.bin .Sub (f0 .lim) (.loc 2)),.raise .l0]) (ss []),.asgnF 0 .bra (f0 .csr),.whl (.con (.bool true)) (ss [.asgn 3 (.bin .Sub (f0 .lim) (f0 .csr)),.try_ (ss [.ite (.not_ (.callM .r2 0 (es []))) (ss [.raise .l1]) (ss []),sd,.brk]) .l1,.asgnF 0 .csr (.bin .Sub (f0 .lim) (.loc 3)),sl "iqU",.brk])]) .l0]) (ss [.ite (.cmp .Eq (.loc 1) (cI 3)) (ss [.ite (.not_ (.callM .r2 0 (es []))) (ss [.ret (.con (.bool false))]) (ss []),sl "log"]) (ss [.ite (.cmp .Eq (.loc 1) (cI 4)) (ss [.ite (.not_ (.callM .r2 0 (es []))) (ss [.ret (.con (.bool false))]) (ss []),sl "u"]) (ss [.ite (.cmp .Eq (.loc 1) (cI 5)) (ss [.ite (.not_ (.callM .r2 0 (es []))) (ss [.ret (.con (.bool false))]) (ss []),sl "ent"]) (ss [.ite (.cmp .Eq (.loc 1) (cI 6)) (ss [.ite (.not_ (.callM .rV 0 (es []))) (ss [.ret (.con (.bool false))]) (ss []),sd,.asgn 4 (.bin .Sub (f0 .lim) (f0 .csr)),.try_ (ss [.asgnF 0 .ket (f0 .csr),.asgn 1 (.callM .find_among_b 0 (es [(.tab .a2)])),.ite (.cmp .Eq (.loc 1) (cI 0)) (ss [.asgnF 0 .csr (.bin .Sub (f0 .lim) (.loc 4)),.raise .l0]) (ss []),.asgnF 0 .bra (f0 .csr),.ite (.cmp .Eq (.loc 1) (cI 1)) (ss [.ite (.not_ (.callM .r2 0 (es []))) (ss [.asgnF 0 .csr (.bin .Sub (f0 .lim) (.loc 4)),.raise .l0]) (ss []),sd,.asgnF 0 .ket (f0 .csr),.ite (.not_ (.callM .eq_s_b 0 (es [(cs "at")]))) (ss [.asgnF 0 .csr (.bin .Sub (f0 .lim) (.loc 4)),.raise .l0]) (ss []),.asgnF 0 .bra (f0 .csr),.ite (.not_ (.callM .r2 0 (es []))) (ss [.asgnF 0 .csr (.bin .Sub (f0 .lim) (.loc 4)),.raise .l0]) (ss []),sd]) (ss [.ite (.cmp .Eq (.loc 1) (cI 2)) (ss [.whl (.con (.bool true)) (ss [.asgn 5 (.bin .Sub (f0 .lim) (f0 .csr)),.try_ (ss [.ite (.not_ (.callM .r2 0 (es []))) (ss [.raise .l1]) (ss []),sd,.brk]) .l1,.asgnF 0 .csr (.bin .Sub (f0 .lim) (.loc 5)),.ite (.not_ (.callM .r1 0 (es []))) (ss [.asgnF 0 .csr (.bin .Sub (f0 .lim) (.loc 4)),.raise .l0]) (ss []),sl "eux",.brk])]) (ss [.ite (.cmp .Eq (.loc 1) (cI 3)) (ss [.ite (.not_ (.callM .r2 0 (es []))) (ss [.asgnF 0 .csr (.bin .Sub (f0 .lim) (.loc 4)),.raise .l0]) (ss []),sd]) (ss [.ite (.not_ (.callM .rV 0 (es []))) (ss [.asgnF 0 .csr (.bin .Sub (f0 .lim) (.loc 4)),.raise .l0]) (ss []),sl "i"])])])]) .l0]) (ss [.ite (.cmp .Eq (.loc 1) (cI 7)) (ss [.ite (.not_ (.callM .r2 0 (es []))) (ss [.ret (.con (.bool false))]) (ss []),sd,.asgn 6 (.bin .Sub (f0 .lim) (f0 .csr)),.try_ (ss [.asgnF 0 .ket (f0 .csr),.asgn 1 (.callM .find_among_b 0 (es [(.tab .a3)])),.ite (.cmp .Eq (.loc 1) (cI 0)) (ss [.asgnF 0 .csr (.bin .Sub (f0 .lim) (.loc 6)),.raise .l0]) (ss []),.asgnF 0 .bra (f0 .csr),.ite (.cmp .Eq (.loc 1) (cI 1)) (ss [.whl (.con (.bool true)) (ss [.asgn 7 (.bin .Sub (f0 .lim) (f0 .csr)),.try_ (ss [.ite (.not_ (.callM .r2 0 (es []))) (ss [.raise .l1]) (ss []),sd,.brk]) .l1,.asgnF 0 .csr (.bin .Sub (f0 .lim) (.loc 7)),sl "abl",.brk])]) (ss [.ite (.cmp .Eq (.loc 1) (cI 2)) (ss [.whl (.con (.bool true)) (ss [.asgn 8 (.bin .Sub (f0 .lim) (f0 .csr)),.try_ (ss [.ite (.not_ (.callM .r2 0 (es []))) (ss [.raise .l1]) (ss []),sd,.brk]) .l1,.asgnF 0 .csr (.bin .Sub (f0 .lim) (.loc 8)),sl "iqU",.brk])]) (ss [.ite (.not_ (.callM .r2 0 (es []))) (ss [.asgnF 0 .csr (.bin .Sub (f0 .lim) (.loc 6)),.raise .l0]) (ss []),sd])])]) .l0]) (ss [.ite (.cmp .Eq (.loc 1) (cI 8)) (ss [.ite (.not_ (.callM .r2 0 (es []))) (ss [.ret (.con (.bool false))]) (ss []),sd,.asgn 9 (.bin .Sub (f0 .lim) (f0 .csr)),.try_ (ss [.asgnF 0 .ket (f0 .csr),.ite (.not_ (.callM .eq_s_b 0 (es [(cs "at")]))) (ss [.asgnF 0 .csr (.bin .Sub (f0 .lim) (.loc 9)),.raise .l0]) (ss []),.asgnF 0 .bra (f0 .csr),.ite (.not_ (.callM .r2 0 (es []))) (ss [.asgnF 0 .csr (.bin .Sub (f0 .lim) (.loc 9)),.raise .l0]) (ss []),sd,.asgnF 0 .ket (f0 .csr),.ite (.not_ (.callM .eq_s_b 0 (es [(cs "ic")]))) (ss [.asgnF 0 .csr (.bin .Sub (f0 .lim) (.loc 9)),.raise .l0]) (ss []),.asgnF 0 .bra (f0 .csr),.whl (.con (.bool true)) (ss [.asgn 10 (.bin .Sub (f0 .lim) (f0 .csr)),.try_ (ss [.ite (.not_ (.callM .r2 0 (es []))) (ss [.raise .l1]) (ss []),sd,.brk]) .l1,.asgnF 0 .csr (.bin .Sub (f0 .lim) (.loc 10)),sl "iqU",.brk])]) .l0]) (ss [.ite (.cmp .Eq (.loc 1) (cI 9)) (ss [sl "eau"]) (ss [.ite (.cmp .Eq (.loc 1) (cI 10)) (ss [.ite (.not_ (.callM .r1 0 (es []))) (ss [.ret (.con (.bool false))]) (ss []),sl "al"]) (ss [.ite (.cmp .Eq (.loc 1) (cI 11)) (ss [.ite (.not_ (.callM .in_grouping_b 0 (es [(.tab .oux)]))) (ss [.ret (.con (.bool false))]) (ss []),sl "ou"]) (ss [.ite (.cmp .Eq (.loc 1) (cI 12)) (ss [.whl (.con (.bool true)) (ss [.asgn 11 (.bin .Sub (f0 .lim) (f0 .csr)),.try_ (ss [.ite (.not_ (.callM .r2 0 (es []))) (ss [.raise .l0]) (ss []),sd,.brk]) .l0,.asgnF 0 .csr (.bin .Sub (f0 .lim) (.loc 11)),.ite (.not_ (.callM .r1 0 (es []))) (ss [.ret (.con (.bool false))]) (ss []),sl "eux",.brk])]) (ss [.ite (.cmp .Eq (.loc 1) (cI 13)) (ss [.ite (.not_ (.callM .r1 0 (es []))) (ss [.ret (.con (.bool false))]) (ss []),.ite (.not_ (.callM .out_grouping_b 0 (es [(.tab .gv)]))) (ss [.ret (.con (.bool false))]) (ss []),sd]) (ss [.ite (.cmp .Eq (.loc 1) (cI 14)) (ss [.ite (.not_ (.callM .rV 0 (es []))) (ss [.ret (.con (.bool false))]) (ss []),sl "ant",.ret (.con (.bool false))]) (ss [.ite (.cmp .Eq (.loc 1) (cI 15)) (ss [.ite (.not_ (.callM .rV 0 (es []))) (ss [.ret (.con (.bool false))]) (ss []),sl "ent",.ret (.con (.bool false))]) (ss [.asgn 12 (.bin .Sub (f0 .lim) (f0 .csr)),.ite (.not_ (.callM .in_grouping_b 0 (es [(.tab .gv)]))) (ss [.ret (.con (.bool false))]) (ss []),.ite (.not_ (.callM .rV 0 (es []))) (ss [.ret (.con (.bool false))]) (ss []),.asgnF 0 .csr (.bin .Sub (f0 .lim) (.loc 12)),sd,.ret (.con (.bool false))])])])])])])])])])])])])])])]),.ret (.con (.bool true))])⟩
noncomputable def ir_i_verb:IFn:=⟨1,2,(ss [.ite (.cmp .Lt (f0 .csr) (f0 .pV)) (ss [.ret (.con (.bool false))]) (ss []),.asgn 1 (f0 .lb),.asgnF 0 .lb (f0 .pV),.asgnF 0 .ket (f0 .csr),.ite (.cmp .Eq (.callM .find_among_b 0 (es [(.tab .a5)])) (cI 0)) (ss [.asgnF 0 .lb (.loc 1),.ret (.con (.bool false))]) (ss []),.asgnF 0 .bra (f0 .csr),.try_ (ss [.ite (.bop .Or (es [(.cmp .LtE (f0 .csr) (f0 .lb)),(.cmp .NotEq (.idx (f0 .cur) (.bin .Sub (f0 .csr) (cI 1))) (cs "H"))])) (ss [.raise .l0]) (ss []),.augF 0 .csr .Sub (cI 1),.asgnF 0 .lb (.loc 1),.ret (.con (.bool false))]) .l0,.ite (.not_ (.callM .out_grouping_b 0 (es [(.tab .gv)]))) (ss [.asgnF 0 .lb (.loc 1),.ret (.con (.bool false))]) (ss []),sd,.asgnF 0 .lb (.loc 1),.ret (.con (.bool true))])⟩
noncomputable def ir_verb:IFn:=⟨1,5,(ss [.ite (.cmp .Lt (f0 .csr) (f0 .pV)) (ss [.ret (.con (.bool false))]) (ss []),.asgn 1 (f0 .lb),.asgnF 0 .lb (f0 .pV),.asgnF 0 .ket (f0 .csr),.asgn 2 (.callM .find_among_b 0 (es [(.tab .a7)])),.ite (.cmp .Eq (.loc 2) (cI 0)) (ss [.asgnF 0 .lb (.loc 1),.ret (.con (.bool false))]) (ss []),.asgnF 0 .bra (f0 .csr),.asgnF 0 .lb (.loc 1),.ite (.cmp .Eq (.loc 2) (cI 1)) (ss [.ite (.not_ (.callM .r2 0 (es []))) (ss [.ret (.con (.bool false))]) (ss []),sd]) (ss [.ite (.cmp .Eq (.loc 2) (cI 2)) (ss [sd]) (ss [.ite (.cmp .Eq (.loc 2) (cI 3)) (ss [.asgn 3 (.bin .Sub (f0 .lim) (f0 .csr)),.try_ (ss [.ite (.bop .Or (es [(.cmp .LtE (f0 .csr) (f0 .lb)),(.cmp .NotEq (.idx (f0 .cur) (.bin .Sub (f0 .csr) (cI 1))) (cs "e"))])) (ss [.asgnF 0 .csr (.bin .Sub (f0 .lim) (.loc 3)),.raise .l0]) (ss []),.augF 0 .csr .Sub (cI 1),.ite (.not_ (.callM .rV 0 (es []))) (ss [.asgnF 0 .csr (.bin .Sub (f0 .lim) (.loc 3)),.raise .l0]) (ss []),.asgnF 0 .bra (f0 .csr)]) .l0,sd]) (ss [.asgn 4 (.bin .Sub (f0 .lim) (f0 .csr)),.try_ (ss [.asgn 2 (.callM .find_among_b 0 (es [(.tab .a6)])),.ite (.cmp .Eq (.loc 2) (cI 0)) (ss [.raise .l0]) (ss []),.ite (.cmp .Eq (.loc 2) (cI 1)) (ss [.ite (.cmp .LtE (f0 .csr) (f0 .lb)) (ss [.raise .l0]) (ss []),.augF 0 .csr .Sub (cI 1),.ite (.cmp .Gt (f0 .csr) (f0 .lb)) (ss [.raise .l0]) (ss [])]) (ss []),.ret (.con (.bool false))]) .l0,.asgnF 0 .csr (.bin .Sub (f0 .lim) (.loc 4)),sd])])]),.ret (.con (.bool true))])⟩
noncomputable def ir_residual:IFn:=⟨1,5,(ss [.asgn 1 (.bin .Sub (f0 .lim) (f0 .csr)),.try_ (ss [.asgnF 0 .ket (f0 .csr),.ite (.bop .Or (es [(.cmp .LtE (f0 .csr) (f0 .lb)),(.cmp .NotEq (.idx (f0 .cur) (.bin .Sub (f0 .csr) (cI 1))) (cs "s"))])) (ss [.asgnF 0 .csr (.bin .Sub (f0 .lim) (.loc 1)),.raise .l0]) (ss []),.augF 0 .csr .Sub (cI 1),.asgnF 0 .bra (f0 .csr),.asgn 2 (.bin .Sub (f0 .lim) (f0 .csr)),.whl (.con (.bool true)) (ss [.try_ (ss [.ite (.not_ (.callM .eq_s_b 0 (es [(cs "Hi")]))) (ss [.raise .l1]) (ss []),.brk]) .l1,.ite (.not_ (.callM .out_grouping_b 0 (es [(.tab .kws)]))) (ss [.asgnF 0 .csr (.bin .Sub (f0 .lim) (.loc 1)),.raise .l0]) (ss []),.brk]),.asgnF 0 .csr (.bin .Sub (f0 .lim) (.loc 2)),sd]) .l0,.ite (.cmp .Lt (f0 .csr) (f0 .pV)) (ss [.ret (.con (.bool false))]) (ss []),.asgn 3 (f0 .lb),.asgnF 0 .lb (f0 .pV),.asgnF 0 .ket (f0 .csr),.asgn 4 (.callM .find_among_b 0 (es [(.tab .a8)])),.ite (.cmp .Eq (.loc 4) (cI 0)) (ss [.asgnF 0 .lb (.loc 3),.ret (.con (.bool false))]) (ss []),.asgnF 0 .bra (f0 .csr),.ite (.cmp .Eq (.loc 4) (cI 1)) (ss [.ite (.not_ (.callM .r2 0 (es []))) (ss [.asgnF 0 .lb (.loc 3),.ret (.con (.bool false))]) (ss []),.whl (.con (.bool true)) (ss [.try_ (ss [.ite (.bop .Or (es [(.cmp .LtE (f0 .csr) (f0 .lb)),(.cmp .NotEq (.idx (f0 .cur) (.bin .Sub (f0 .csr) (cI 1))) (cs "s"))])) (ss [.raise .l0]) (ss []),.augF 0 .csr .Sub (cI 1),.brk]) .l0,.ite (.bop .Or (es [(.cmp .LtE (f0 .csr) (f0 .lb)),(.cmp .NotEq (.idx (f0 .cur) (.bin .Sub (f0 .csr) (cI 1))) (cs "t"))])) (ss [.asgnF 0 .lb (.loc 3),.ret (.con (.bool false))]) (ss []),.augF 0 .csr .Sub (cI 1),.brk]),sd]) (ss [.ite (.cmp .Eq (.loc 4) (cI 2)) (ss [sl "i"]) (ss [sd])]),.asgnF 0 .lb (.loc 3),.ret (.con (.bool true))])⟩
noncomputable def ir_un_double:IFn:=⟨1,2,(ss [.asgn 1 (.bin .Sub (f0 .lim) (f0 .csr)),.ite (.cmp .Eq (.callM .find_among_b 0 (es [(.tab .a9)])) (cI 0)) (ss [.ret (.con (.bool false))]) (ss []),.asgnF 0 .csr (.bin .Sub (f0 .lim) (.loc 1)),.asgnF 0 .ket (f0 .csr),.ite (.cmp .LtE (f0 .csr) (f0 .lb)) (ss [.ret (.con (.bool false))]) (ss []),.augF 0 .csr .Sub (cI 1),.asgnF 0 .bra (f0 .csr),sd,.ret (.con (.bool true))])⟩
noncomputable def ir_un_accent:IFn:=⟨1,2,(ss [.asgn 1 (cI 1),.whl (.con (.bool true)) (ss [.try_ (ss [.ite (.not_ (.callM .out_grouping_b 0 (es [(.tab .gv)]))) (ss [.raise .l0]) (ss []),.augL 1 .Sub (cI 1),.cont]) .l0,.brk]),.ite (.cmp .Gt (.loc 1) (cI 0)) (ss [.ret (.con (.bool false))]) (ss []),.asgnF 0 .ket (f0 .csr),.whl (.con (.bool true)) (ss [.try_ (ss [.ite (.bop .Or (es [(.cmp .LtE (f0 .csr) (f0 .lb)),(.cmp .NotEq (.idx (f0 .cur) (.bin .Sub (f0 .csr) (cI 1))) (cs "é"))])) (ss [.raise .l0]) (ss []),.augF 0 .csr .Sub (cI 1),.brk]) .l0,.ite (.bop .Or (es [(.cmp .LtE (f0 .csr) (f0 .lb)),(.cmp .NotEq (.idx (f0 .cur) (.bin .Sub (f0 .csr) (cI 1))) (cs "è"))])) (ss [.ret (.con (.bool false))]) (ss []),.augF 0 .csr .Sub (cI 1),.brk]),.asgnF 0 .bra (f0 .csr),sl "e",.ret (.con (.bool true))])⟩
noncomputable def ir_stem_:IFn:=⟨1,12,(ss [.asgn 1 (f0 .csr),.expr (.callM .elisions 0 (es [])),.asgnF 0 .csr (.loc 1),.asgn 2 (f0 .csr),.expr (.callM .prelude 0 (es [])),.asgnF 0 .csr (.loc 2),.expr (.callM .mark_regions 0 (es [])),.asgnF 0 .lb (f0 .csr),.asgnF 0 .csr (f0 .lim),.asgn 3 (.bin .Sub (f0 .lim) (f0 .csr)),.try_ (ss [.whl (.con (.bool true)) (ss [.asgn 4 (.bin .Sub (f0 .lim) (f0 .csr)),.try_ (ss [.asgn 5 (.bin .Sub (f0 .lim) (f0 .csr)),.whl (.con (.bool true)) (ss [.asgn 6 (.bin .Sub (f0 .lim) (f0 .csr)),.try_ (ss [.ite (.not_ (.callM .standard 0 (es []))) (ss [.raise .l2]) (ss []),.brk]) .l2,.asgnF 0 .csr (.bin .Sub (f0 .lim) (.loc 6)),.try_ (ss [.ite (.not_ (.callM .i_verb 0 (es []))) (ss [.raise .l2]) (ss []),.brk]) .l2,.asgnF 0 .csr (.bin .Sub (f0 .lim) (.loc 6)),.ite (.not_ (.callM .verb 0 (es []))) (ss [.raise .l1]) (ss []),.brk]),.asgnF 0 .csr (.bin .Sub (f0 .lim) (.loc 5)),.asgn 7 (.bin .Sub (f0 .lim) (f0 .csr)),.try_ (ss [.asgnF 0 .ket (f0 .csr),.whl (.con (.bool true)) (ss [.asgn 8 (.bin .Sub (f0 .lim) (f0 .csr)),.try_ (ss [.ite (.bop .Or (es [(.cmp .LtE (f0 .csr) (f0 .lb)),(.cmp .NotEq (.idx (f0 .cur) (.bin .Sub (f0 .csr) (cI 1))) (cs "Y"))])) (ss [.raise .l3]) (ss []),.augF 0 .csr .Sub (cI 1),.asgnF 0 .bra (f0 .csr),sl "i",.brk]) .l3,.asgnF 0 .csr (.bin .Sub (f0 .lim) (.loc 8)),.ite (.bop .Or (es [(.cmp .LtE (f0 .csr) (f0 .lb)),(.cmp .NotEq (.idx (f0 .cur) (.bin .Sub (f0 .csr) (cI 1))) (cs "ç"))])) (ss [.asgnF 0 .csr (.bin .Sub (f0 .lim) (.loc 7)),.raise .l2]) (ss []),.augF 0 .csr .Sub (cI 1),.asgnF 0 .bra (f0 .csr),sl "c",.brk])]) .l2,.brk]) .l1,.asgnF 0 .csr (.bin .Sub (f0 .lim) (.loc 4)),.ite (.not_ (.callM .residual 0 (es []))) (ss [.raise .l0]) (ss []),.brk])]) .l0,.asgnF 0 .csr (.bin .Sub (f0 .lim) (.loc 3)),.asgn 9 (.bin .Sub (f0 .lim) (f0 .csr)),.expr (.callM .un_double 0 (es [])),.asgnF 0 .csr (.bin .Sub (f0 .lim) (.loc 9)),.asgn 10 (.bin .Sub (f0 .lim) (f0 .csr)),.expr (.callM .un_accent 0 (es [])),.asgnF 0 .csr (.bin .Sub (f0 .lim) (.loc 10)),.asgnF 0 .csr (f0 .lb),.asgn 11 (f0 .csr),.expr (.callM .postlude 0 (es [])),.asgnF 0 .csr (.loc 11),.ret (.con (.bool true))])⟩
noncomputable def irf_vowels:IFn:=⟨0,0,(ss [.ret (.list (es [(cs "a"),(cs "e"),(cs "i"),(cs "o"),(cs "u"),(cs "y"),(cs "à"),(cs "â"),(cs "è"),(cs "é"),(cs "ê"),(cs "ë"),(cs "î"),(cs "ï"),(cs "ô"),(cs "ù"),(cs "û")]))])⟩
noncomputable def irf_letters:IFn:=⟨0,0,(ss [.ret (.list (es [(cs "a"),(cs "b"),(cs "c"),(cs "d"),(cs "e"),(cs "f"),(cs "g"),(cs "h"),(cs "i"),(cs "j"),(cs "l"),(cs "m"),(cs "n"),(cs "o"),(cs "p"),(cs "q"),(cs "r"),(cs "s"),(cs "t"),(cs "u"),(cs "v"),(cs "x"),(cs "y"),(cs "z"),(cs "à"),(cs "â"),(cs "ç"),(cs "è"),(cs "é"),(cs "ê"),(cs "ë"),(cs "î"),(cs "ï"),(cs "ô"),(cs "ù"),(cs "û"),(cs "'"),(cs "k"),(cs "w"),(cs "œ"),(cs "æ"),(cs "ü"),(cs "ÿ")]))])⟩
noncomputable def irf_parts:IFn:=⟨0,0,(ss [.ret (.list (es [(cs "l'"),(cs "d'"),(cs "qu'"),(cs "c'"),(cs "col"),(cs "ni"),(cs "par"),(cs "tap"),(cs "qu"),(cs "qua"),(cs "ay"),(cs "oy"),(cs "uai"),(cs "aï"),(cs "oë"),(cs "gu"),(cs "at"),(cs "ic"),(cs "iv"),(cs "abil"),(cs "abl"),(cs "ièr"),(cs "eus"),(cs "ill"),(cs "enn"),(cs "ett"),(cs "onn"),(cs "és"),(cs "al"),(cs "épl"),(cs "auv"),(cs "bij"),(cs "gen")]))])⟩
noncomputable def irf_nouns:IFn:=⟨0,0,(ss [.ret (.dict [(cps "iqUe"),(cps "atrice"),(cps "ance"),(cps "ence"),(cps "logie"),(cps "able"),(cps "isme"),(cps "euse"),(cps "iste"),(cps "ive"),(cps "if"),(cps "usion"),(cps "ation"),(cps "ution"),(cps "ateur"),(cps "iqUes"),(cps "atrices"),(cps "ances"),(cps "ences"),(cps "logies"),(cps "ables"),(cps "ismes"),(cps "euses"),(cps "istes"),(cps "ives"),(cps "ifs"),(cps "usions"),(cps "ations"),(cps "utions"),(cps "ateurs"),(cps "ments"),(cps "ements"),(cps "issements"),(cps "ités"),(cps "ment"),(cps "ement"),(cps "issement"),(cps "amment"),(cps "emment"),(cps "aux"),(cps "eaux"),(cps "eux"),(cps "oux"),(cps "ité")] (es [(cI 1),(cI 2),(cI 1),(cI 5),(cI 3),(cI 1),(cI 1),(cI 12),(cI 1),(cI 8),(cI 8),(cI 4),(cI 2),(cI 4),(cI 2),(cI 1),(cI 2),(cI 1),(cI 5),(cI 3),(cI 1),(cI 1),(cI 12),(cI 1),(cI 8),(cI 8),(cI 4),(cI 2),(cI 4),(cI 2),(cI 16),(cI 6),(cI 13),(cI 7),(cI 16),(cI 6),(cI 13),(cI 14),(cI 15),(cI 10),(cI 9),(cI 1),(cI 11),(cI 7)]))])⟩
noncomputable def irf_verbs:IFn:=⟨0,0,(ss [.ret (.dict [(cps "a"),(cps "era"),(cps "aise"),(cps "asse"),(cps "ante"),(cps "ée"),(cps "ai"),(cps "erai"),(cps "er"),(cps "as"),(cps "eras"),(cps "âmes"),(cps "aises"),(cps "asses"),(cps "antes"),(cps "âtes"),(cps "ées"),(cps "ais"),(cps "eais"),(cps "erais"),(cps "ions"),(cps "erions"),(cps "assions"),(cps "erons"),(cps "ants"),(cps "és"),(cps "ait"),(cps "erait"),(cps "ant"),(cps "aIent"),(cps "eraIent"),(cps "èrent"),(cps "assent"),(cps "eront"),(cps "ât"),(cps "ez"),(cps "iez"),(cps "eriez"),(cps "assiez"),(cps "erez"),(cps "é")] (es [(cI 3),(cI 2),(cI 4),(cI 3),(cI 3),(cI 2),(cI 3),(cI 2),(cI 2),(cI 3),(cI 2),(cI 3),(cI 4),(cI 3),(cI 3),(cI 3),(cI 2),(cI 4),(cI 2),(cI 2),(cI 1),(cI 2),(cI 3),(cI 2),(cI 3),(cI 2),(cI 3),(cI 2),(cI 3),(cI 3),(cI 2),(cI 2),(cI 3),(cI 2),(cI 3),(cI 2),(cI 2),(cI 2),(cI 3),(cI 2),(cI 2)]))])⟩
noncomputable def irf_last:IFn:=⟨0,0,(ss [.ret (.dict [(cps "e"),(cps "Ière"),(cps "ière"),(cps "ion"),(cps "Ier"),(cps "ier")] (es [(cI 3),(cI 2),(cI 2),(cI 1),(cI 2),(cI 2)]))])⟩
noncomputable def irf_end_:IFn:=⟨3,5,(ss [.asgn 3 (cs ""),.forL 4 (.loc 1) (ss [.ite (.bop .And (es [(.cmp .Gt (.len (.loc 4)) (.len (.loc 3))),(.ew (.slc (.loc 0) (.loc 2) (.con .none)) (.loc 4))])) (ss [.asgn 3 (.loc 4)]) (ss [])]),.ret (.loc 3)])⟩
noncomputable def irf_cut:IFn:=⟨2,2,(ss [.ret (.slc (.loc 0) (.con .none) (.bin .Sub (.len (.loc 0)) (.len (.loc 1))))])⟩
noncomputable def irf_less:IFn:=⟨3,4,(ss [.asgn 3 (.callF .cut (es [(.loc 0),(.callF .end_ (es [(.loc 0),(.loc 1),(cI 0)]))])),.ret (.ite (.cmp .GtE (.len (.loc 3)) (.loc 2)) (.loc 3) (.loc 0))])⟩
noncomputable def irf_behind:IFn:=⟨2,2,(ss [.whl (.bop .And (es [(.cmp .Lt (.loc 1) (.len (.loc 0))),(.cmp .NotIn (.idx (.loc 0) (.loc 1)) (.callF .vowels (es [])))])) (ss [.augL 1 .Add (cI 1)]),.whl (.bop .And (es [(.cmp .Lt (.loc 1) (.len (.loc 0))),(.cmp .In (.idx (.loc 0) (.loc 1)) (.callF .vowels (es [])))])) (ss [.augL 1 .Add (cI 1)]),.ret (.min (.bin .Add (.loc 1) (cI 1)) (.len (.loc 0)))])⟩
noncomputable def irf_marked:IFn:=⟨1,8,(ss [.asgn 1 (.ite (.cmp .Eq (.slc (.loc 0) (.con .none) (cI 2)) (cs "qu")) (cI 2) (cI 1)),.ite (.bop .And (es [(.bop .Or (es [(.cmp .Eq (.loc 1) (cI 2)),(.cmp .In (.slc (.loc 0) (.con .none) (cI 1)) (.list (es [(cs "c"),(cs "d"),(cs "j"),(cs "l"),(cs "m"),(cs "n"),(cs "s"),(cs "t")])))])),(.cmp .Eq (.slc (.loc 0) (.loc 1) (.bin .Add (.loc 1) (cI 1))) (cs "'")),(.cmp .Gt (.len (.loc 0)) (.bin .Add (.loc 1) (cI 1)))])) (ss [.asgn 0 (.slc (.loc 0) (.bin .Add (.loc 1) (cI 1)) (.con .none))]) (ss []),.asgn 2 (cI 0),.forR 3 (cI 0) (.bin .Add (.bin .Mult (cI 4) (.len (.loc 0))) (cI 4)) (cI 1) (ss [.asgnTT [4,5,6] (es [(.slc (.loc 0) (.loc 2) (.bin .Add (.loc 2) (cI 1))),(.slc (.loc 0) (.bin .Add (.loc 2) (cI 1)) (.bin .Add (.loc 2) (cI 2))),(.slc (.loc 0) (.bin .Add (.loc 2) (cI 2)) (.bin .Add (.loc 2) (cI 3)))]),.asgn 7 (.bop .And (es [(.cmp .In (.loc 5) (.list (es [(cs "u"),(cs "i")]))),(.cmp .In (.loc 6) (.callF .vowels (es [])))])),.ite (.bop .And (es [(.cmp .In (.loc 4) (.callF .vowels (es []))),(.bop .Or (es [(.loc 7),(.cmp .Eq (.loc 5) (cs "y"))]))])) (ss [.asgn 0 (.bin .Add (.bin .Add (.slc (.loc 0) (.con .none) (.bin .Add (.loc 2) (cI 1))) (.upper (.loc 5))) (.slc (.loc 0) (.bin .Add (.loc 2) (cI 2)) (.con .none)))]) (ss [.ite (.cmp .Eq (.loc 4) (cs "ë")) (ss [.asgn 0 (.bin .Add (.bin .Add (.slc (.loc 0) (.con .none) (.loc 2)) (cs "He")) (.slc (.loc 0) (.bin .Add (.loc 2) (cI 1)) (.con .none)))]) (ss [.ite (.cmp .Eq (.loc 4) (cs "ï")) (ss [.asgn 0 (.bin .Add (.bin .Add (.slc (.loc 0) (.con .none) (.loc 2)) (cs "Hi")) (.slc (.loc 0) (.bin .Add (.loc 2) (cI 1)) (.con .none)))]) (ss [.ite (.bop .And (es [(.cmp .Eq (.loc 4) (cs "y")),(.cmp .In (.loc 5) (.callF .vowels (es [])))])) (ss [.asgn 0 (.bin .Add (.bin .Add (.slc (.loc 0) (.con .none) (.loc 2)) (cs "Y")) (.slc (.loc 0) (.bin .Add (.loc 2) (cI 1)) (.con .none)))]) (ss [.ite (.bop .And (es [(.cmp .Eq (.loc 4) (cs "q")),(.cmp .Eq (.loc 5) (cs "u"))])) (ss [.asgn 0 (.bin .Add (.bin .Add (.slc (.loc 0) (.con .none) (.bin .Add (.loc 2) (cI 1))) (cs "U")) (.slc (.loc 0) (.bin .Add (.loc 2) (cI 2)) (.con .none)))]) (ss [.ite (.cmp .Lt (.loc 2) (.len (.loc 0))) (ss [.augL 2 .Add (cI 1)]) (ss [])])])])])])]),.ret (.loc 0)])⟩
noncomputable def irf_first:IFn:=⟨1,2,(ss [.ite (.bop .And (es [(.cmp .Gt (.len (.loc 0)) (cI 2)),(.cmp .In (.idx (.loc 0) (cI 0)) (.callF .vowels (es []))),(.cmp .In (.idx (.loc 0) (cI 1)) (.callF .vowels (es [])))])) (ss [.ret (cI 3)]) (ss []),.ite (.bop .Or (es [(.cmp .In (.slc (.loc 0) (.con .none) (cI 3)) (.list (es [(cs "col"),(cs "par"),(cs "tap")]))),(.bop .And (es [(.cmp .Eq (.slc (.loc 0) (.con .none) (cI 2)) (cs "ni")),(.cmp .In (.slc (.loc 0) (cI 2) (cI 3)) (.callF .vowels (es [])))]))])) (ss [.ret (cI 3)]) (ss []),.asgn 1 (cI 1),.whl (.bop .And (es [(.cmp .Lt (.loc 1) (.len (.loc 0))),(.cmp .NotIn (.idx (.loc 0) (.loc 1)) (.callF .vowels (es [])))])) (ss [.augL 1 .Add (cI 1)]),.ret (.min (.bin .Add (.loc 1) (cI 1)) (.len (.loc 0)))])⟩
noncomputable def irf_or_:IFn:=⟨4,5,(ss [.asgn 4 (.callF .cut (es [(.loc 0),(.loc 1)])),.ret (.ite (.cmp .GtE (.len (.loc 4)) (.loc 2)) (.loc 4) (.bin .Add (.loc 4) (.loc 3)))])⟩
noncomputable def irf_adverb:IFn:=⟨4,6,(ss [.asgn 4 (.callF .end_ (es [(.loc 0),(.list (es [(cs "iqU"),(cs "abl"),(cs "Ièr"),(cs "ièr"),(cs "eus"),(cs "iv")])),(cI 0)])),.asgn 5 (.callF .cut (es [(.loc 0),(.loc 4)])),.ite (.bop .And (es [(.cmp .Eq (.loc 4) (cs "iv")),(.cmp .GtE (.len (.loc 5)) (.loc 3))])) (ss [.ret (.callF .less (es [(.loc 5),(.list (es [(cs "at")])),(.loc 3)]))]) (ss []),.ite (.cmp .Eq (.loc 4) (cs "eus")) (ss [.ret (.ite (.cmp .GtE (.len (.loc 5)) (.loc 3)) (.loc 5) (.ite (.cmp .GtE (.len (.loc 5)) (.loc 2)) (.bin .Add (.loc 5) (cs "eux")) (.loc 0)))]) (ss []),.ite (.cmp .In (.loc 4) (.list (es [(cs "Ièr"),(cs "ièr")]))) (ss [.ret (.ite (.cmp .GtE (.len (.loc 5)) (.loc 1)) (.bin .Add (.loc 5) (cs "i")) (.loc 0))]) (ss []),.ret (.ite (.cmp .GtE (.len (.loc 5)) (.loc 3)) (.loc 5) (.loc 0))])⟩
noncomputable def irf_noun:IFn:=⟨4,10,(ss [.asgn 4 (.callF .end_ (es [(.loc 0),(.listOf (.callF .nouns (es []))),(cI 0)])),.asgn 5 (.callF .cut (es [(.loc 0),(.loc 4)])),.asgn 6 (.len (.loc 5)),.ite (.cmp .Eq (.loc 4) (cs "")) (ss [.ret (.tup (es [(.loc 0),(.con (.bool false))]))]) (ss []),.asgn 7 (.idx (.callF .nouns (es [])) (.loc 4)),.ite (.bop .Or (es [(.cmp .Eq (.loc 7) (cI 14)),(.cmp .Eq (.loc 7) (cI 15))])) (ss [.ret (.tup (es [(.ite (.cmp .Lt (.loc 6) (.loc 1)) (.loc 0) (.bin .Add (.loc 5) (.idx (.list (es [(cs "ant"),(cs "ent")])) (.bin .Sub (.loc 7) (cI 14))))),(.con (.bool false))]))]) (ss []),.ite (.cmp .Eq (.loc 7) (cI 16)) (ss [.ret (.tup (es [(.ite (.bop .And (es [(.cmp .In (.slc (.loc 5) (.neg (cI 1)) (.con .none)) (.callF .vowels (es []))),(.cmp .Gt (.loc 6) (.loc 1))])) (.loc 5) (.loc 0)),(.con (.bool false))]))]) (ss []),.ite (.cmp .Eq (.loc 7) (cI 9)) (ss [.ret (.tup (es [(.bin .Add (.loc 5) (cs "eau")),(.con (.bool true))]))]) (ss []),.ite (.cmp .Eq (.loc 7) (cI 10)) (ss [.ret (.ite (.cmp .Lt (.loc 6) (.loc 2)) (.tup (es [(.loc 0),(.con (.bool false))])) (.tup (es [(.bin .Add (.loc 5) (cs "al")),(.con (.bool true))])))]) (ss []),.ite (.cmp .Eq (.loc 7) (cI 11)) (ss [.ret (.ite (.cmp .In (.slc (.loc 5) (.neg (cI 1)) (.con .none)) (.list (es [(cs "b"),(cs "h"),(cs "j"),(cs "l"),(cs "n"),(cs "p")]))) (.tup (es [(.bin .Add (.loc 5) (cs "ou")),(.con (.bool true))])) (.tup (es [(.loc 0),(.con (.bool false))])))]) (ss []),.ite (.cmp .Eq (.loc 7) (cI 12)) (ss [.ret (.ite (.cmp .Lt (.loc 6) (.loc 2)) (.tup (es [(.loc 0),(.con (.bool false))])) (.tup (es [(.callF .or_ (es [(.loc 0),(.loc 4),(.loc 3),(cs "eux")])),(.con (.bool true))])))]) (ss []),.ite (.cmp .Eq (.loc 7) (cI 13)) (ss [.ret (.ite (.bop .Or (es [(.cmp .Lt (.loc 6) (.loc 2)),(.cmp .Eq (.loc 5) (cs "")),(.cmp .In (.idx (.loc 5) (.neg (cI 1))) (.callF .vowels (es [])))])) (.tup (es [(.loc 0),(.con (.bool false))])) (.tup (es [(.loc 5),(.con (.bool true))])))]) (ss []),.ite (.cmp .Eq (.loc 7) (cI 6)) (ss [.ret (.ite (.cmp .Lt (.loc 6) (.loc 1)) (.tup (es [(.loc 0),(.con (.bool false))])) (.tup (es [(.callF .adverb (es [(.loc 5),(.loc 1),(.loc 2),(.loc 3)])),(.con (.bool true))])))]) (ss []),.ite (.cmp .Lt (.loc 6) (.loc 3)) (ss [.ret (.tup (es [(.loc 0),(.con (.bool false))]))]) (ss []),.ite (.bop .Or (es [(.cmp .Eq (.loc 7) (cI 3)),(.cmp .Eq (.loc 7) (cI 4)),(.cmp .Eq (.loc 7) (cI 5))])) (ss [.ret (.tup (es [(.bin .Add (.loc 5) (.idx (.list (es [(cs "log"),(cs "u"),(cs "ent")])) (.bin .Sub (.loc 7) (cI 3)))),(.con (.bool true))]))]) (ss []),.ite (.cmp .Eq (.loc 7) (cI 7)) (ss [.asgn 8 (.callF .end_ (es [(.loc 5),(.list (es [(cs "ic"),(cs "abil"),(cs "iv")])),(cI 0)])),.ite (.cmp .Eq (.loc 8) (cs "iv")) (ss [.ret (.tup (es [(.callF .less (es [(.loc 5),(.list (es [(cs "iv")])),(.loc 3)])),(.con (.bool true))]))]) (ss []),.ret (.tup (es [(.callF .or_ (es [(.loc 5),(.loc 8),(.loc 3),(.idx (.dict [(cps ""),(cps "ic"),(cps "abil")] (es [(cs ""),(cs "iqU"),(cs "abl")])) (.loc 8))])),(.con (.bool true))]))]) (ss []),.ite (.cmp .Eq (.loc 7) (cI 8)) (ss [.asgn 9 (.callF .less (es [(.loc 5),(.list (es [(cs "at")])),(.loc 3)])),.ite (.cmp .Eq (.loc 9) (.loc 5)) (ss [.ret (.tup (es [(.loc 5),(.con (.bool true))]))]) (ss []),.asgn 5 (.loc 9)]) (ss []),.ite (.bop .And (es [(.bop .Or (es [(.cmp .Eq (.loc 7) (cI 2)),(.cmp .Eq (.loc 7) (cI 8))])),(.cmp .Eq (.slc (.loc 5) (.neg (cI 2)) (.con .none)) (cs "ic"))])) (ss [.ret (.tup (es [(.callF .or_ (es [(.loc 5),(cs "ic"),(.loc 3),(cs "iqU")])),(.con (.bool true))]))]) (ss []),.ret (.tup (es [(.loc 5),(.con (.bool true))]))])⟩
noncomputable def irf_verb:IFn:=⟨3,7,(ss [.asgn 3 (.callF .end_ (es [(.loc 0),.short,(.loc 1)])),.asgn 4 (.callF .cut (es [(.loc 0),(.loc 3)])),.ite (.bop .And (es [(.cmp .NotEq (.loc 3) (cs "")),(.cmp .Gt (.len (.loc 4)) (.loc 1)),(.cmp .NotIn (.idx (.loc 4) (.neg (cI 1))) (.callF .vowels (es []))),(.cmp .NotEq (.idx (.loc 4) (.neg (cI 1))) (cs "H"))])) (ss [.ret (.loc 4)]) (ss []),.asgn 3 (.callF .end_ (es [(.loc 0),(.listOf (.callF .verbs (es []))),(.loc 1)])),.asgn 4 (.callF .cut (es [(.loc 0),(.loc 3)])),.ite (.cmp .Eq (.loc 3) (cs "")) (ss [.ret (.con .none)]) (ss []),.asgn 5 (.idx (.callF .verbs (es [])) (.loc 3)),.ite (.cmp .Eq (.loc 5) (cI 1)) (ss [.ret (.ite (.cmp .GtE (.len (.loc 4)) (.loc 2)) (.loc 4) (.con .none))]) (ss []),.ite (.cmp .Eq (.loc 5) (cI 3)) (ss [.ret (.ite (.bop .And (es [(.cmp .Eq (.slc (.loc 4) (.neg (cI 1)) (.con .none)) (cs "e")),(.cmp .Gt (.len (.loc 4)) (.loc 1))])) (.slc (.loc 4) (.con .none) (.neg (cI 1))) (.loc 4))]) (ss []),.ite (.cmp .Eq (.loc 5) (cI 4)) (ss [.asgn 6 (.callF .end_ (es [(.loc 4),(.list (es [(cs "al"),(cs "épl"),(cs "auv")])),(cI 0)])),.ret (.ite (.bop .Or (es [(.cmp .In (.loc 6) (.list (es [(cs "épl"),(cs "auv")]))),(.bop .And (es [(.cmp .Eq (.loc 6) (cs "al")),(.cmp .Eq (.len (.loc 4)) (cI 3))]))])) (.con .none) (.loc 4))]) (ss []),.ret (.loc 4)])⟩
noncomputable def irf_rest:IFn:=⟨3,6,(ss [.asgn 3 (.slc (.loc 0) (.con .none) (.neg (cI 1))),.ite (.bop .And (es [(.cmp .Eq (.slc (.loc 0) (.neg (cI 1)) (.con .none)) (cs "s")),(.bop .Or (es [(.cmp .Eq (.slc (.loc 3) (.neg (cI 2)) (.con .none)) (cs "Hi")),(.bop .And (es [(.cmp .NotEq (.loc 3) (cs "")),(.cmp .NotIn (.idx (.loc 3) (.neg (cI 1))) (.list (es [(cs "a"),(cs "i"),(cs "o"),(cs "s"),(cs "u"),(cs "è")])))]))]))])) (ss [.asgn 0 (.loc 3)]) (ss []),.asgn 4 (.callF .end_ (es [(.loc 0),(.listOf (.callF .last (es []))),(.loc 1)])),.asgn 5 (.callF .cut (es [(.loc 0),(.loc 4)])),.ite (.cmp .Eq (.loc 4) (cs "")) (ss [.ret (.loc 0)]) (ss []),.ite (.cmp .Eq (.idx (.callF .last (es [])) (.loc 4)) (cI 1)) (ss [.ret (.ite (.bop .And (es [(.cmp .GtE (.len (.loc 5)) (.loc 2)),(.cmp .Gt (.len (.loc 5)) (.loc 1)),(.cmp .In (.idx (.loc 5) (.neg (cI 1))) (.list (es [(cs "s"),(cs "t")])))])) (.loc 5) (.loc 0))]) (ss []),.ret (.ite (.cmp .Eq (.idx (.callF .last (es [])) (.loc 4)) (cI 2)) (.bin .Add (.loc 5) (cs "i")) (.loc 5))])⟩
noncomputable def irf_plain:IFn:=⟨1,4,(ss [.ite (.bop .Or (es [(.cmp .Eq (.slc (.loc 0) (.neg (cI 4)) (.con .none)) (cs "eill")),(.cmp .In (.slc (.loc 0) (.neg (cI 3)) (.con .none)) (.list (es [(cs "ell"),(cs "enn"),(cs "onn"),(cs "ett")])))])) (ss [.asgn 0 (.slc (.loc 0) (.con .none) (.neg (cI 1)))]) (ss []),.asgn 1 (.len (.loc 0)),.whl (.bop .And (es [(.cmp .Gt (.loc 1) (cI 0)),(.cmp .NotIn (.idx (.loc 0) (.bin .Sub (.loc 1) (cI 1))) (.callF .vowels (es [])))])) (ss [.augL 1 .Sub (cI 1)]),.ite (.bop .And (es [(.cmp2 .Lt .Lt (cI 0) (.loc 1) (.len (.loc 0))),(.cmp .In (.idx (.loc 0) (.bin .Sub (.loc 1) (cI 1))) (.list (es [(cs "é"),(cs "è")])))])) (ss [.asgn 0 (.bin .Add (.bin .Add (.slc (.loc 0) (.con .none) (.bin .Sub (.loc 1) (cI 1))) (cs "e")) (.slc (.loc 0) (.loc 1) (.con .none)))]) (ss []),.forRepl 0 2 3 [((cps "He"),(cps "ë")),((cps "Hi"),(cps "ï")),((cps "H"),(cps "")),((cps "I"),(cps "i")),((cps "U"),(cps "u")),((cps "Y"),(cps "y"))],.ret (.loc 0)])⟩
noncomputable def irf_stem:IFn:=⟨1,6,(ss [.asgn 0 (.callF .marked (es [(.loc 0)])),.asgn 1 (.callF .first (es [(.loc 0)])),.asgn 2 (.callF .behind (es [(.loc 0),(cI 0)])),.asgn 3 (.callF .behind (es [(.loc 0),(.loc 2)])),.asgnT [0,4] (.callF .noun (es [(.loc 0),(.loc 1),(.loc 2),(.loc 3)])),.asgn 5 (.ite (.loc 4) (.loc 0) (.callF .verb (es [(.loc 0),(.loc 1),(.loc 3)]))),.ite (.cmp .Is (.loc 5) (.con .none)) (ss [.ret (.callF .plain (es [(.callF .rest (es [(.loc 0),(.loc 1),(.loc 3)]))]))]) (ss []),.ite (.cmp .Eq (.slc (.loc 5) (.neg (cI 1)) (.con .none)) (cs "Y")) (ss [.asgn 5 (.bin .Add (.slc (.loc 5) (.con .none) (.neg (cI 1))) (cs "i"))]) (ss [.ite (.cmp .Eq (.slc (.loc 5) (.neg (cI 1)) (.con .none)) (cs "ç")) (ss [.asgn 5 (.bin .Add (.slc (.loc 5) (.con .none) (.neg (cI 1))) (cs "c"))]) (ss [])]),.ret (.callF .plain (es [(.loc 5)]))])⟩
noncomputable def irf_word:IFn:=⟨2,6,(ss [.asgn 2 (cs ""),.forL 3 (.loc 0) (ss [.asgn 4 (.bin .FloorDiv (.loc 3) (cI 3)),.ite (.cmp .Eq (.bin .Mod (.loc 3) (cI 3)) (cI 0)) (ss [.forR 5 (cI 0) (.bin .Mod (.loc 4) (cI 5)) (cI 1) (ss [.asgn 2 (.bin .Add (.loc 2) (.idx (.callF .letters (es [])) (.bin .Mod (.bin .Mod (.bin .FloorDiv (.bin .FloorDiv (.loc 4) (cI 5)) (.bin .Pow (cI 64) (.loc 5))) (cI 64)) (.len (.callF .letters (es []))))))])]) (ss [.ite (.cmp .Eq (.bin .Mod (.loc 3) (cI 3)) (cI 1)) (ss [.asgn 2 (.bin .Add (.loc 2) (.idx (.loc 1) (.bin .Mod (.loc 4) (.len (.loc 1)))))]) (ss [.asgn 2 (.bin .Add (.loc 2) (.idx (.callF .parts (es [])) (.bin .Mod (.loc 4) (.len (.callF .parts (es []))))))])])]),.ret (.loc 2)])⟩
noncomputable def ir_init:IFn:=⟨1,1,(ss [.expr (.callM .set_current 0 (es [(cs "")]))])⟩
noncomputable def irF:FId->IFn
 | .vowels=>irf_vowels
 | .letters=>irf_letters
 | .parts=>irf_parts
 | .nouns=>irf_nouns
 | .verbs=>irf_verbs
 | .last=>irf_last
 | .end_=>irf_end_
 | .cut=>irf_cut
 | .less=>irf_less
 | .behind=>irf_behind
 | .marked=>irf_marked
 | .first=>irf_first
 | .or_=>irf_or_
 | .adverb=>irf_adverb
 | .noun=>irf_noun
 | .verb=>irf_verb
 | .rest=>irf_rest
 | .plain=>irf_plain
 | .stem=>irf_stem
 | .word=>irf_word
noncomputable def irM:MId->IFn
 | .in_grouping=>ir_in_grouping
 | .go_in_grouping=>ir_go_in_grouping
 | .in_grouping_b=>ir_in_grouping_b
 | .go_out_grouping=>ir_go_out_grouping
 | .out_grouping_b=>ir_out_grouping_b
 | .eq_s=>ir_eq_s
 | .eq_s_b=>ir_eq_s_b
 | .find_among=>ir_find_among
 | .find_among_b=>ir_find_among_b
 | .replace_s=>ir_replace_s
 | .slice_from=>ir_slice_from
 | .slice_del=>ir_slice_del
 | .set_current=>ir_set_current
 | .get_current=>ir_get_current
 | .stemWord=>ir_stemWord
 | .elisions=>ir_elisions
 | .prelude=>ir_prelude
 | .mark_regions=>ir_mark_regions
 | .postlude=>ir_postlude
 | .rV=>ir_rV
 | .r1=>ir_r1
 | .r2=>ir_r2
 | .standard=>ir_standard
 | .i_verb=>ir_i_verb
 | .verb=>ir_verb
 | .residual=>ir_residual
 | .un_double=>ir_un_double
 | .un_accent=>ir_un_accent
 | .stem_=>ir_stem_
noncomputable def nounsL:List (T × Int):=[((cps "iqUe"),1),((cps "atrice"),2),((cps "ance"),1),((cps "ence"),5),((cps "logie"),3),((cps "able"),1),((cps "isme"),1),((cps "euse"),12),((cps "iste"),1),((cps "ive"),8),((cps "if"),8),((cps "usion"),4),((cps "ation"),2),((cps "ution"),4),((cps "ateur"),2),((cps "iqUes"),1),((cps "atrices"),2),((cps "ances"),1),((cps "ences"),5),((cps "logies"),3),((cps "ables"),1),((cps "ismes"),1),((cps "euses"),12),((cps "istes"),1),((cps "ives"),8),((cps "ifs"),8),((cps "usions"),4),((cps "ations"),2),((cps "utions"),4),((cps "ateurs"),2),((cps "ments"),16),((cps "ements"),6),((cps "issements"),13),((cps "ités"),7),((cps "ment"),16),((cps "ement"),6),((cps "issement"),13),((cps "amment"),14),((cps "emment"),15),((cps "aux"),10),((cps "eaux"),9),((cps "eux"),1),((cps "oux"),11),((cps "ité"),7)]
noncomputable def nounsV:V:=.dict (nounsL.map (·.1)) (nounsL.map fun p=>.int p.2)
noncomputable def verbsL:List (T × Int):=[((cps "a"),3),((cps "era"),2),((cps "aise"),4),((cps "asse"),3),((cps "ante"),3),((cps "ée"),2),((cps "ai"),3),((cps "erai"),2),((cps "er"),2),((cps "as"),3),((cps "eras"),2),((cps "âmes"),3),((cps "aises"),4),((cps "asses"),3),((cps "antes"),3),((cps "âtes"),3),((cps "ées"),2),((cps "ais"),4),((cps "eais"),2),((cps "erais"),2),((cps "ions"),1),((cps "erions"),2),((cps "assions"),3),((cps "erons"),2),((cps "ants"),3),((cps "és"),2),((cps "ait"),3),((cps "erait"),2),((cps "ant"),3),((cps "aIent"),3),((cps "eraIent"),2),((cps "èrent"),2),((cps "assent"),3),((cps "eront"),2),((cps "ât"),3),((cps "ez"),2),((cps "iez"),2),((cps "eriez"),2),((cps "assiez"),3),((cps "erez"),2),((cps "é"),2)]
noncomputable def verbsV:V:=.dict (verbsL.map (·.1)) (verbsL.map fun p=>.int p.2)
noncomputable def shortL:List T:=[(cps "ira"),(cps "ie"),(cps "isse"),(cps "issante"),(cps "i"),(cps "irai"),(cps "ir"),(cps "iras"),(cps "ies"),(cps "îmes"),(cps "isses"),(cps "issantes"),(cps "îtes"),(cps "is"),(cps "irais"),(cps "issais"),(cps "irions"),(cps "issions"),(cps "irons"),(cps "issons"),(cps "issants"),(cps "it"),(cps "irait"),(cps "issait"),(cps "issant"),(cps "iraIent"),(cps "issaIent"),(cps "irent"),(cps "issent"),(cps "iront"),(cps "ît"),(cps "iriez"),(cps "issiez"),(cps "irez"),(cps "issez")]
noncomputable def shortV:V:=.list (shortL.map .str)
noncomputable def t0L:List (T × Int × Int):=[((cps "col"),-1,-1),((cps "ni"),-1,1),((cps "par"),-1,-1),((cps "tap"),-1,-1)]
noncomputable def t1L:List (T × Int × Int):=[((cps ""),-1,7),((cps "H"),0,6),((cps "He"),1,4),((cps "Hi"),1,5),((cps "I"),0,1),((cps "U"),0,2),((cps "Y"),0,3)]
noncomputable def t2L:List (T × Int × Int):=[((cps "iqU"),-1,3),((cps "abl"),-1,3),((cps "Ièr"),-1,4),((cps "ièr"),-1,4),((cps "eus"),-1,2),((cps "iv"),-1,1)]
noncomputable def t3L:List (T × Int × Int):=[((cps "ic"),-1,2),((cps "abil"),-1,1),((cps "iv"),-1,3)]
noncomputable def t4L:List (T × Int × Int):=[((cps "iqUe"),-1,1),((cps "atrice"),-1,2),((cps "ance"),-1,1),((cps "ence"),-1,5),((cps "logie"),-1,3),((cps "able"),-1,1),((cps "isme"),-1,1),((cps "euse"),-1,12),((cps "iste"),-1,1),((cps "ive"),-1,8),((cps "if"),-1,8),((cps "usion"),-1,4),((cps "ation"),-1,2),((cps "ution"),-1,4),((cps "ateur"),-1,2),((cps "iqUes"),-1,1),((cps "atrices"),-1,2),((cps "ances"),-1,1),((cps "ences"),-1,5),((cps "logies"),-1,3),((cps "ables"),-1,1),((cps "ismes"),-1,1),((cps "euses"),-1,12),((cps "istes"),-1,1),((cps "ives"),-1,8),((cps "ifs"),-1,8),((cps "usions"),-1,4),((cps "ations"),-1,2),((cps "utions"),-1,4),((cps "ateurs"),-1,2),((cps "ments"),-1,16),((cps "ements"),30,6),((cps "issements"),31,13),((cps "ités"),-1,7),((cps "ment"),-1,16),((cps "ement"),34,6),((cps "issement"),35,13),((cps "amment"),34,14),((cps "emment"),34,15),((cps "aux"),-1,10),((cps "eaux"),39,9),((cps "eux"),-1,1),((cps "oux"),-1,11),((cps "ité"),-1,7)]
noncomputable def t5L:List (T × Int × Int):=[((cps "ira"),-1,1),((cps "ie"),-1,1),((cps "isse"),-1,1),((cps "issante"),-1,1),((cps "i"),-1,1),((cps "irai"),4,1),((cps "ir"),-1,1),((cps "iras"),-1,1),((cps "ies"),-1,1),((cps "îmes"),-1,1),((cps "isses"),-1,1),((cps "issantes"),-1,1),((cps "îtes"),-1,1),((cps "is"),-1,1),((cps "irais"),13,1),((cps "issais"),13,1),((cps "irions"),-1,1),((cps "issions"),-1,1),((cps "irons"),-1,1),((cps "issons"),-1,1),((cps "issants"),-1,1),((cps "it"),-1,1),((cps "irait"),21,1),((cps "issait"),21,1),((cps "issant"),-1,1),((cps "iraIent"),-1,1),((cps "issaIent"),-1,1),((cps "irent"),-1,1),((cps "issent"),-1,1),((cps "iront"),-1,1),((cps "ît"),-1,1),((cps "iriez"),-1,1),((cps "issiez"),-1,1),((cps "irez"),-1,1),((cps "issez"),-1,1)]
noncomputable def t6L:List (T × Int × Int):=[((cps "al"),-1,1),((cps "épl"),-1,-1),((cps "auv"),-1,-1)]
noncomputable def t7L:List (T × Int × Int):=[((cps "a"),-1,3),((cps "era"),0,2),((cps "aise"),-1,4),((cps "asse"),-1,3),((cps "ante"),-1,3),((cps "ée"),-1,2),((cps "ai"),-1,3),((cps "erai"),6,2),((cps "er"),-1,2),((cps "as"),-1,3),((cps "eras"),9,2),((cps "âmes"),-1,3),((cps "aises"),-1,4),((cps "asses"),-1,3),((cps "antes"),-1,3),((cps "âtes"),-1,3),((cps "ées"),-1,2),((cps "ais"),-1,4),((cps "eais"),17,2),((cps "erais"),17,2),((cps "ions"),-1,1),((cps "erions"),20,2),((cps "assions"),20,3),((cps "erons"),-1,2),((cps "ants"),-1,3),((cps "és"),-1,2),((cps "ait"),-1,3),((cps "erait"),26,2),((cps "ant"),-1,3),((cps "aIent"),-1,3),((cps "eraIent"),29,2),((cps "èrent"),-1,2),((cps "assent"),-1,3),((cps "eront"),-1,2),((cps "ât"),-1,3),((cps "ez"),-1,2),((cps "iez"),35,2),((cps "eriez"),36,2),((cps "assiez"),36,3),((cps "erez"),35,2),((cps "é"),-1,2)]
noncomputable def t8L:List (T × Int × Int):=[((cps "e"),-1,3),((cps "Ière"),0,2),((cps "ière"),0,2),((cps "ion"),-1,1),((cps "Ier"),-1,2),((cps "ier"),-1,2)]
noncomputable def t9L:List (T × Int × Int):=[((cps "ell"),-1,-1),((cps "eill"),-1,-1),((cps "enn"),-1,-1),((cps "onn"),-1,-1),((cps "ett"),-1,-1)]
noncomputable def gvL:List T:=[(cps "a"),(cps "e"),(cps "i"),(cps "o"),(cps "u"),(cps "y"),(cps "à"),(cps "â"),(cps "è"),(cps "é"),(cps "ê"),(cps "ë"),(cps "î"),(cps "ï"),(cps "ô"),(cps "ù"),(cps "û")]
noncomputable def ouxL:List T:=[(cps "b"),(cps "h"),(cps "j"),(cps "l"),(cps "n"),(cps "p")]
noncomputable def eliL:List T:=[(cps "c"),(cps "d"),(cps "j"),(cps "l"),(cps "m"),(cps "n"),(cps "s"),(cps "t")]
noncomputable def kwsL:List T:=[(cps "a"),(cps "i"),(cps "o"),(cps "s"),(cps "u"),(cps "è")]
noncomputable def amV (p:T × Int × Int):V:=.amg p.1 p.2.1 p.2.2
noncomputable def tabV:Tab->V
 | .gv=>.set gvL | .oux=>.set ouxL | .eli=>.set eliL | .kws=>.set kwsL
 | .a0=>.list (t0L.map amV)
 | .a1=>.list (t1L.map amV)
 | .a2=>.list (t2L.map amV)
 | .a3=>.list (t3L.map amV)
 | .a4=>.list (t4L.map amV)
 | .a5=>.list (t5L.map amV)
 | .a6=>.list (t6L.map amV)
 | .a7=>.list (t7L.map amV)
 | .a8=>.list (t8L.map amV)
 | .a9=>.list (t9L.map amV)
noncomputable def n0:Nat:=999
noncomputable def strict0:Tbl:={ fn:=fun _ _ _ _=>False,mt:=fun _ _ _ _=>False,tab:=tabV,short:=shortV,loose:=false }
noncomputable def strict1:Tbl:={ strict0 with fn:=fun g vs s Q=>match g with | .vowels=>runI strict0 (n0 + 1) irf_vowels vs s Q | _=>False }
noncomputable def base0:Tbl:={ fn:=fun _ _ _ _=>False,mt:=fun _ _ _ _=>False,tab:=tabV,short:=shortV,loose:=true }
noncomputable def nT (C:Tbl):Tbl:={ C with
 fn:=fun g vs s Q=>match g with
  | .nouns=>Must vs.isEmpty (Q nounsV s)
  | .verbs=>Must vs.isEmpty (Q verbsV s)
  | .plain=>runI strict1 (n0 + 1) irf_plain vs s Q
  | g=>runI C (n0 + 1) (irF g) vs s Q
 mt:=fun g vs s Q=>runI C (n0 + 1) (irM g) (.self :: vs) s Q }
noncomputable def tblAt:Nat->Tbl
 | 0=>base0
 | n + 1=>nT (tblAt n)
end Mine
end
noncomputable section
open PySem PySem.W
set_option Elab.async false
set_option autoImplicit false
set_option maxRecDepth 100000
set_option linter.all false
set_option genInjectivity false
set_option genSizeOf false
set_option bootstrap.genMatcherCode false
namespace Mine
theorem Br.dec {p:Prop} [Decidable p] {A B:Prop} (h1:p->A) (h2:¬ p->B):Br (decide p) A B:=⟨fun e=>h1 (of_decide_eq_true e),fun e=>h2 (of_decide_eq_false e)⟩
theorem Br.not {b:Bool} {A B:Prop} (h:Br b B A):Br (!b) A B:=by cases b; exact ⟨fun _=>h.f rfl,nofun⟩; exact ⟨nofun,fun _=>h.t rfl⟩
theorem Br.tr {A B:Prop} (h:A):Br true A B:=⟨fun _=>h,nofun⟩
theorem Br.fa {A B:Prop} (h:B):Br false A B:=⟨nofun,fun _=>h⟩
theorem Br.no {p:Prop} [Decidable p] {A B:Prop} (h:¬ p) (hB:B):Br (decide p) A B:=Br.dec (fun z=>(h z).elim) fun _=>hB
theorem Br.yes {p:Prop} [Decidable p] {A B:Prop} (h:p) (hA:A):Br (decide p) A B:=Br.dec (fun _=>hA) fun z=>(z h).elim
theorem Idx.of {α:Type} {o:Option α} {v:α} {P:α->Prop} (e:o = some v) (h:P v):Idx o P:=⟨v,e,h⟩
theorem WM.run {C:Tbl} {g:MId} {vs:List V} {s:Stem} {Q:QE} (hl:Nat.beq (vs.length + 1) (irM g).np = true) (h:wpSs C (n0 + 1) (irM g).body ((V.self :: vs).map some ++ List.replicate ((irM g).nl - (irM g).np) none) s (runK Q)):WM (nT C) g vs s Q:=⟨⟨hl,h⟩⟩
theorem WF.run {C:Tbl} {g:FId} {vs:List V} {s:Stem} {Q:QE} (hg:(nT C).fn g vs s Q = runI C (n0 + 1) (irF g) vs s Q) (hl:Nat.beq vs.length (irF g).np = true) (h:wpSs C (n0 + 1) (irF g).body (vs.map some ++ List.replicate ((irF g).nl - (irF g).np) none) s (runK Q)):WF (nT C) g vs s Q:=⟨by rw [hg]; exact ⟨hl,h⟩⟩
theorem WW.step {wc:WEt} {wb:WSt} {n:Nat} {l:Lc} {s:Stem} {Q:QS} (h:wc l s (whlK (wW wc wb n) wb l Q)):WW wc wb (n + 1) l s Q:=⟨h⟩
theorem WL.nil {i:Nat} {wb:WSt} {l:Lc} {s:Stem} {Q:QS} (h:Q .next l s):WL i wb [] l s Q:=⟨h⟩
theorem WL.cons {i:Nat} {wb:WSt} {x:V} {xs:List V} {l:Lc} {s:Stem} {Q:QS} (h:wb (l.set i (some x)) s (loopK (wL i wb xs) Q)):WL i wb (x :: xs) l s Q:=⟨h⟩
theorem pyAt_nat {α:Type} (l:List α) (i:Nat):pyAt l (i:Int) = l[i]?:=by
 unfold pyAt; rw [if_neg (by lia)]; simp
theorem pyAt_eq {α:Type} (l:List α) (i:Int) (k:Nat) (h:i = (k:Int)):pyAt l i = l[k]?:=by rw [h]; exact pyAt_nat l k
section
variable {cur pre suf p r:T} {csr:Int} {c:Nat}
theorem at_here (hcur:cur = p ++ c :: r) (hcsr:csr = p.length):pyAt cur csr = some c:=by
 rw [pyAt_eq _ _ p.length hcsr,hcur]; simp
theorem at_back (hcur:cur = p ++ [c] ++ r) (hcsr:csr = p.length + 1):pyAt cur (csr - 1) = some c:=by
 rw [pyAt_eq _ _ p.length (by lia),hcur]; simp
end
theorem slice_mid (a b c:T):slice (a ++ b ++ c) (some (a.length:Int)) (some ((a ++ b).length:Int)) = b:=by
 have e1:adj (a ++ b ++ c).length ((a ++ b).length:Int) = (a ++ b).length:=by unfold adj; rw [if_neg (by lia)]; simp; lia
 have e2:adj (a ++ b ++ c).length (a.length:Int) = a.length:=by unfold adj; rw [if_neg (by lia)]; simp
 unfold slice
 simp only [Option.map_some,Option.getD_some]
 rw [e1,e2,List.take_left' rfl,List.drop_left' rfl]
theorem slice_pre (a b:T):slice (a ++ b) (some 0) (some (a.length:Int)) = a:=by
 have:=slice_mid [] a b
 simpa using this
theorem slice_suf (a b:T):slice (a ++ b) (some (a.length:Int)) none = b:=by
 have e2:adj (a ++ b).length (a.length:Int) = a.length:=by unfold adj; rw [if_neg (by lia)]; simp
 unfold slice
 simp only [Option.map_some,Option.getD_some,Option.map_none,Option.getD_none]
 rw [e2,List.take_of_length_le (Nat.le_refl _),List.drop_left' rfl]
theorem slice_from (a b:T):slice (a ++ b) (some (a.length:Int)) (some ((a ++ b).length:Int)) = b:=by
 have:=slice_mid a b []
 simpa using this
section
variable {C:Tbl} {p2 p1 pV:Option Int} {bra ket csr lm lb:Int} {cur pre suf a b c x:T} {ts:List T} {ch:Nat} {Q:QE}
theorem inG_nil (h0:csr >= lm) (h:Q (.bool false) ⟨cur,csr,lm,lb,bra,ket,p2,p1,pV⟩):WM (nT C) .in_grouping [.set ts] ⟨cur,csr,lm,lb,bra,ket,p2,p1,pV⟩ Q:=by
 refine WM.run rfl ?_
 conv=>whnf
 refine Br.yes h0 ?_
 exact h
theorem inG_y (h0:csr < lm) (e:pyAt cur csr = some ch) (hc:ts.contains [ch] = true) (h:Q (.bool true) ⟨cur,csr + 1,lm,lb,bra,ket,p2,p1,pV⟩):WM (nT C) .in_grouping [.set ts] ⟨cur,csr,lm,lb,bra,ket,p2,p1,pV⟩ Q:=by
 refine WM.run rfl ?_
 conv=>whnf
 refine Br.no (by lia) ?_
 conv=>whnf
 refine Idx.of e ?_
 conv=>whnf
 rw [hc]
 refine Br.fa ?_
 exact h
theorem inG_n (h0:csr < lm) (e:pyAt cur csr = some ch) (hc:ts.contains [ch] = false) (h:Q (.bool false) ⟨cur,csr,lm,lb,bra,ket,p2,p1,pV⟩):WM (nT C) .in_grouping [.set ts] ⟨cur,csr,lm,lb,bra,ket,p2,p1,pV⟩ Q:=by
 refine WM.run rfl ?_
 conv=>whnf
 refine Br.no (by lia) ?_
 conv=>whnf
 refine Idx.of e ?_
 conv=>whnf
 rw [hc]
 refine Br.tr ?_
 exact h
theorem inB_nil (h0:csr <= lb) (h:Q (.bool false) ⟨cur,csr,lm,lb,bra,ket,p2,p1,pV⟩):WM (nT C) .in_grouping_b [.set ts] ⟨cur,csr,lm,lb,bra,ket,p2,p1,pV⟩ Q:=by
 refine WM.run rfl ?_
 conv=>whnf
 refine Br.yes h0 ?_
 exact h
theorem inB_y (h0:lb < csr) (e:pyAt cur (csr - 1) = some ch) (hc:ts.contains [ch] = true) (h:Q (.bool true) ⟨cur,csr - 1,lm,lb,bra,ket,p2,p1,pV⟩):WM (nT C) .in_grouping_b [.set ts] ⟨cur,csr,lm,lb,bra,ket,p2,p1,pV⟩ Q:=by
 refine WM.run rfl ?_
 conv=>whnf
 refine Br.no (by lia) ?_
 conv=>whnf
 refine Idx.of e ?_
 conv=>whnf
 rw [hc]
 refine Br.fa ?_
 exact h
theorem inB_n (h0:lb < csr) (e:pyAt cur (csr - 1) = some ch) (hc:ts.contains [ch] = false) (h:Q (.bool false) ⟨cur,csr,lm,lb,bra,ket,p2,p1,pV⟩):WM (nT C) .in_grouping_b [.set ts] ⟨cur,csr,lm,lb,bra,ket,p2,p1,pV⟩ Q:=by
 refine WM.run rfl ?_
 conv=>whnf
 refine Br.no (by lia) ?_
 conv=>whnf
 refine Idx.of e ?_
 conv=>whnf
 rw [hc]
 refine Br.tr ?_
 exact h
theorem outB_nil (h0:csr <= lb) (h:Q (.bool false) ⟨cur,csr,lm,lb,bra,ket,p2,p1,pV⟩):WM (nT C) .out_grouping_b [.set ts] ⟨cur,csr,lm,lb,bra,ket,p2,p1,pV⟩ Q:=by
 refine WM.run rfl ?_
 conv=>whnf
 refine Br.yes h0 ?_
 exact h
theorem outB_y (h0:lb < csr) (e:pyAt cur (csr - 1) = some ch) (hc:ts.contains [ch] = false) (h:Q (.bool true) ⟨cur,csr - 1,lm,lb,bra,ket,p2,p1,pV⟩):WM (nT C) .out_grouping_b [.set ts] ⟨cur,csr,lm,lb,bra,ket,p2,p1,pV⟩ Q:=by
 refine WM.run rfl ?_
 conv=>whnf
 refine Br.no (by lia) ?_
 conv=>whnf
 refine Idx.of e ?_
 conv=>whnf
 rw [hc]
 refine Br.tr ?_
 exact h
theorem outB_n (h0:lb < csr) (e:pyAt cur (csr - 1) = some ch) (hc:ts.contains [ch] = true) (h:Q (.bool false) ⟨cur,csr,lm,lb,bra,ket,p2,p1,pV⟩):WM (nT C) .out_grouping_b [.set ts] ⟨cur,csr,lm,lb,bra,ket,p2,p1,pV⟩ Q:=by
 refine WM.run rfl ?_
 conv=>whnf
 refine Br.no (by lia) ?_
 conv=>whnf
 refine Idx.of e ?_
 conv=>whnf
 rw [hc]
 refine Br.fa ?_
 exact h
theorem eqS_W (hcur:cur = pre ++ suf) (hcsr:csr = pre.length) (hlim:lm = (pre ++ suf).length) (h1:x.isPrefixOf suf = true->Q (.bool true) ⟨cur,csr + x.length,lm,lb,bra,ket,p2,p1,pV⟩) (h0:x.isPrefixOf suf = false->Q (.bool false) ⟨cur,csr,lm,lb,bra,ket,p2,p1,pV⟩) :
 WM (nT C) .eq_s [.str x] ⟨cur,csr,lm,lb,bra,ket,p2,p1,pV⟩ Q:=by
 have e:slice cur (some csr) (some lm) = suf:=by rw [hcur,hcsr,hlim]; exact slice_from _ _
 refine WM.run rfl ?_
 conv=>whnf
 rw [e]
 exact ⟨fun z=>h1 z,fun z=>h0 z⟩
theorem eqB_W (hcur:cur = pre ++ suf) (hcsr:csr = pre.length) (h1:x.isSuffixOf pre = true->Q (.bool true) ⟨cur,csr - x.length,lm,0,bra,ket,p2,p1,pV⟩) (h0:x.isSuffixOf pre = false->Q (.bool false) ⟨cur,csr,lm,0,bra,ket,p2,p1,pV⟩) :
 WM (nT C) .eq_s_b [.str x] ⟨cur,csr,lm,0,bra,ket,p2,p1,pV⟩ Q:=by
 have e:slice cur (some 0) (some csr) = pre:=by rw [hcur,hcsr]; exact slice_pre _ _
 refine WM.run rfl ?_
 conv=>whnf
 rw [e]
 exact ⟨fun z=>h1 z,fun z=>h0 z⟩
theorem Cat.ok {m n:T} {P:V->Prop} (h:(m ++ n).length <= lim) (k:P (.str (m ++ n))):Cat m n P:=⟨h,k⟩
theorem rep_R (hcur:cur = a ++ b ++ c) (hb:bra = a.length) (hk:ket = (a ++ b).length) (hlen:(a ++ x ++ c).length <= lim) (hc:csr >= ket) {bra' ket':Int}
 (h:∀ v,Q (.int v) ⟨a ++ x ++ c,csr + ((x.length:Int) - b.length),lm + ((x.length:Int) - b.length),lb,bra',ket',p2,p1,pV⟩) :
 WM (nT C) .replace_s [.int bra,.int ket,.str x] ⟨cur,csr,lm,lb,bra',ket',p2,p1,pV⟩ Q:=by
 have e1:slice cur (some 0) (some bra) = a:=by rw [hcur,hb,List.append_assoc]; exact slice_pre _ _
 have e2:slice cur (some ket) none = c:=by rw [hcur,hk]; exact slice_suf _ _
 have e3:ket - bra = b.length:=by rw [hk,hb]; simp; lia
 refine WM.run rfl ?_
 conv=>whnf
 rw [e1]
 refine Cat.ok (by simp at hlen ⊢; lia) ?_
 conv=>whnf
 rw [e2]
 refine Cat.ok hlen ?_
 conv=>whnf
 refine Br.yes hc ?_
 conv=>whnf
 rw [e3]
 exact h _
theorem rep_L (hcur:cur = a ++ b ++ c) (hb:bra = a.length) (hk:ket = (a ++ b).length) (hlen:(a ++ x ++ c).length <= lim) (hc:csr <= bra) (h0:0 < b.length) {bra' ket':Int}
 (h:∀ v,Q (.int v) ⟨a ++ x ++ c,csr,lm + ((x.length:Int) - b.length),lb,bra',ket',p2,p1,pV⟩) :
 WM (nT C) .replace_s [.int bra,.int ket,.str x] ⟨cur,csr,lm,lb,bra',ket',p2,p1,pV⟩ Q:=by
 have e1:slice cur (some 0) (some bra) = a:=by rw [hcur,hb,List.append_assoc]; exact slice_pre _ _
 have e2:slice cur (some ket) none = c:=by rw [hcur,hk]; exact slice_suf _ _
 have e3:ket - bra = b.length:=by rw [hk,hb]; simp; lia
 refine WM.run rfl ?_
 conv=>whnf
 rw [e1]
 refine Cat.ok (by simp at hlen ⊢; lia) ?_
 conv=>whnf
 rw [e2]
 refine Cat.ok hlen ?_
 conv=>whnf
 refine Br.no (by lia) ?_
 conv=>whnf
 refine Br.no (by lia) ?_
 conv=>whnf
 rw [e3]
 exact h _
theorem from_pre {Q:QE} (hcur:cur = a ++ b ++ c) (hb:bra = a.length) (hk:ket = (a ++ b).length) (hlim:lm = (a ++ b ++ c).length)
 (h:WM (nT C) .replace_s [.int bra,.int ket,.str x] ⟨cur,csr,lm,lb,bra,ket,p2,p1,pV⟩ (exprK [some .self,some (.str x)] (seqK (wpSs (nT C) (n0 + 1) (ss [.asgnF 0 .ket (.bin .Add (f0 .bra) (.len (.loc 1)))])) (runK Q)))) :
 WM (nT (nT C)) .slice_from [.str x] ⟨cur,csr,lm,lb,bra,ket,p2,p1,pV⟩ Q:=by
 have l1:(a ++ b).length = a.length + b.length:=by simp
 have l2:(a ++ b ++ c).length = a.length + b.length + c.length:=by simp; lia
 have l3:cur.length = a.length + b.length + c.length:=by rw [hcur,l2]
 refine WM.run rfl ?_
 conv=>whnf
 refine Must.mk (decide_eq_true (by lia)) ?_
 conv=>whnf
 refine Must.mk (decide_eq_true (by lia)) ?_
 conv=>whnf
 refine Must.mk (decide_eq_true (by lia)) ?_
 conv=>whnf
 refine Must.mk (decide_eq_true (by lia)) ?_
 exact h
theorem from_R (hcur:cur = a ++ b ++ c) (hc:csr >= ket) (hb:bra = a.length) (hk:ket = (a ++ b).length) (hlim:lm = (a ++ b ++ c).length) (hlen:(a ++ x ++ c).length <= lim) (h:Q .none ⟨a ++ x ++ c,csr + ((x.length:Int) - b.length),(a ++ x ++ c).length,lb,bra,bra + x.length,p2,p1,pV⟩) :
 WM (nT (nT C)) .slice_from [.str x] ⟨cur,csr,lm,lb,bra,ket,p2,p1,pV⟩ Q:=by
 refine from_pre hcur hb hk hlim (rep_R hcur hb hk hlen hc fun v=>?_)
 conv=>whnf
 have e:lm + ((x.length:Int) - b.length) = (a ++ x ++ c).length:=by rw [hlim]; simp; lia
 rw [e]
 exact h
theorem from_L (hcur:cur = a ++ b ++ c) (hc:csr <= bra) (hb:bra = a.length) (hk:ket = (a ++ b).length) (hlim:lm = (a ++ b ++ c).length) (h0:0 < b.length) (hlen:(a ++ x ++ c).length <= lim) (h:Q .none ⟨a ++ x ++ c,csr,(a ++ x ++ c).length,lb,bra,bra + x.length,p2,p1,pV⟩) :
 WM (nT (nT C)) .slice_from [.str x] ⟨cur,csr,lm,lb,bra,ket,p2,p1,pV⟩ Q:=by
 refine from_pre hcur hb hk hlim (rep_L hcur hb hk hlen hc h0 fun v=>?_)
 conv=>whnf
 have e:lm + ((x.length:Int) - b.length) = (a ++ x ++ c).length:=by rw [hlim]; simp; lia
 rw [e]
 exact h
theorem del_R (hcur:cur = a ++ b ++ c) (hc:csr >= ket) (hb:bra = a.length) (hk:ket = (a ++ b).length) (hlim:lm = (a ++ b ++ c).length) (hlen:(a ++ b ++ c).length <= lim) (h:Q .none ⟨a ++ c,csr - b.length,(a ++ c).length,lb,bra,bra,p2,p1,pV⟩) :
 WM (nT (nT (nT C))) .slice_del [] ⟨cur,csr,lm,lb,bra,ket,p2,p1,pV⟩ Q:=by
 refine WM.run rfl ?_
 conv=>whnf
 refine from_R (x:=cps "") hcur hc hb hk hlim (by rw [show cps "" = [] from rfl]; simp at hlen ⊢; lia) ?_
 rw [show cps "" = [] from rfl,List.append_nil,List.length_nil,show csr + (((0:Nat):Int) - b.length) = csr - b.length by lia,show bra + ((0:Nat):Int) = bra by lia]
 exact h
theorem del_L (hcur:cur = a ++ b ++ c) (hc:csr <= bra) (hb:bra = a.length) (hk:ket = (a ++ b).length) (hlim:lm = (a ++ b ++ c).length) (h0:0 < b.length) (hlen:(a ++ b ++ c).length <= lim) (h:Q .none ⟨a ++ c,csr,(a ++ c).length,lb,bra,bra,p2,p1,pV⟩) :
 WM (nT (nT (nT C))) .slice_del [] ⟨cur,csr,lm,lb,bra,ket,p2,p1,pV⟩ Q:=by
 refine WM.run rfl ?_
 conv=>whnf
 refine from_L (x:=cps "") hcur hc hb hk hlim h0 (by rw [show cps "" = [] from rfl]; simp at hlen ⊢; lia) ?_
 rw [show cps "" = [] from rfl,List.append_nil,show bra + (([]:T).length:Int) = bra by simp]
 exact h
theorem rV_W {v:Int} (h:Q (.bool (decide (v <= csr))) ⟨cur,csr,lm,lb,bra,ket,p2,p1,some v⟩):WM (nT C) .rV [] ⟨cur,csr,lm,lb,bra,ket,p2,p1,some v⟩ Q:=WM.run rfl h
theorem r1_W {v:Int} (h:Q (.bool (decide (v <= csr))) ⟨cur,csr,lm,lb,bra,ket,p2,some v,pV⟩):WM (nT C) .r1 [] ⟨cur,csr,lm,lb,bra,ket,p2,some v,pV⟩ Q:=WM.run rfl h
theorem r2_W {v:Int} (h:Q (.bool (decide (v <= csr))) ⟨cur,csr,lm,lb,bra,ket,some v,p1,pV⟩):WM (nT C) .r2 [] ⟨cur,csr,lm,lb,bra,ket,some v,p1,pV⟩ Q:=WM.run rfl h
theorem set_current_W (h:Q .none ⟨x,0,x.length,0,0,x.length,p2,p1,pV⟩):WM (nT C) .set_current [.str x] ⟨cur,csr,lm,lb,bra,ket,p2,p1,pV⟩ Q:=WM.run rfl h
theorem get_current_W (h:Q (.str cur) ⟨cur,csr,lm,lb,bra,ket,p2,p1,pV⟩):WM (nT C) .get_current [] ⟨cur,csr,lm,lb,bra,ket,p2,p1,pV⟩ Q:=WM.run rfl h
end
theorem isPrefixOf_iff (a s:T):a.isPrefixOf s = decide (s.take a.length = a):=by
 rw [Bool.eq_iff_iff,List.isPrefixOf_iff_prefix,decide_eq_true_iff]
 constructor
 ·rintro ⟨t,rfl⟩; simp
 ·intro h; exact ⟨s.drop a.length,by have:=List.take_append_drop a.length s; rw [h] at this; exact this⟩
noncomputable def cle:T->T->Bool
 | [],_=>true
 | _ :: _,[]=>false
 | a :: k,b :: t=>if a = b then cle k t else decide (a < b)
noncomputable def lcp:T->T->Nat
 | a :: k,b :: t=>if a = b then lcp k t + 1 else 0
 | _,_=>0
theorem lcp_le:∀ (k t:T),lcp k t <= k.length
 | [],_=>Nat.zero_le _
 | _ :: _,[]=>Nat.zero_le _
 | a :: k,b :: t=>by
  show (if a = b then lcp k t + 1 else 0) <= k.length + 1
  split
  ·exact Nat.succ_le_succ (lcp_le k t)
  ·exact Nat.zero_le _
theorem lcp_le':∀ (k t:T),lcp k t <= t.length
 | [],t=>Nat.zero_le _
 | _ :: _,[]=>Nat.zero_le _
 | a :: k,b :: t=>by
  show (if a = b then lcp k t + 1 else 0) <= t.length + 1
  split
  ·exact Nat.succ_le_succ (lcp_le' k t)
  ·exact Nat.zero_le _
theorem lcp_take:∀ (k t:T) (m:Nat),m <= lcp k t->k.take m = t.take m
 | _,_,0,_=>rfl
 | [],_,m + 1,h=>absurd h (Nat.not_succ_le_zero m)
 | _ :: _,[],m + 1,h=>absurd h (Nat.not_succ_le_zero m)
 | a :: k,b :: t,m + 1,h=>by
  replace h:m + 1 <= (if a = b then lcp k t + 1 else 0):=h
  by_cases e:a = b
  ·subst e
   rw [if_pos rfl] at h
   exact congrArg (a :: ·) (lcp_take k t m (Nat.le_of_succ_le_succ h))
  ·rw [if_neg e] at h
   exact absurd h (Nat.not_succ_le_zero m)
theorem lcp_ge:∀ (k t:T) (m:Nat),m <= k.length->m <= t.length->k.take m = t.take m->m <= lcp k t
 | _,_,0,_,_,_=>Nat.zero_le _
 | [],_,m + 1,h,_,_=>absurd h (Nat.not_succ_le_zero m)
 | _ :: _,[],m + 1,_,h,_=>absurd h (Nat.not_succ_le_zero m)
 | a :: k,b :: t,m + 1,h1,h2,h=>by
  show m + 1 <= (if a = b then lcp k t + 1 else 0)
  rw [if_pos (List.cons.inj h).1]
  exact Nat.succ_le_succ (lcp_ge k t m (Nat.le_of_succ_le_succ h1) (Nat.le_of_succ_le_succ h2) (List.cons.inj h).2)
theorem lcp_full {k t:T}:lcp k t = k.length ↔ k.isPrefixOf t = true:=by
 rw [isPrefixOf_iff,decide_eq_true_iff]
 constructor
 ·intro h
  have:=lcp_take k t k.length (by lia)
  rw [List.take_length] at this; exact this.symm
 ·intro h
  have h1:=congrArg List.length h
  simp at h1
  have:=lcp_ge k t k.length (Nat.le_refl _) (by lia) (by rw [h,List.take_length])
  have:=lcp_le k t
  lia
theorem cle_at:∀ (k t:T),cle k t = (match k[lcp k t]?,t[lcp k t]? with | none,_=>true | some _,none=>false | some a,some b=>decide (a < b))
 | [],_=>by simp [cle]
 | a :: k,[]=>by simp [cle,lcp]
 | a :: k,b :: t=>by
  unfold cle lcp
  split
  ·simp [cle_at k t]
  ·simp
theorem cle_trans:∀ (a b t:T),cle a b = true->cle b t = true->cle a t = true
 | [],_,_,_,_=>by simp [cle]
 | x :: a,[],_,h,_=>by simp [cle] at h
 | x :: a,y :: b,[],_,h=>by simp [cle] at h
 | x :: a,y :: b,z :: t,h1,h2=>by
  unfold cle at h1 h2 ⊢
  by_cases e1:x = y
  ·subst e1
   rw [if_pos rfl] at h1
   by_cases e2:x = z
   ·rw [if_pos e2] at h2 ⊢; exact cle_trans a b t h1 h2
   ·rw [if_neg e2] at h2 ⊢; exact h2
  ·rw [if_neg e1] at h1
   have h1:=of_decide_eq_true h1
   by_cases e2:y = z
   ·subst e2
    rw [if_neg e1]; exact decide_eq_true h1
   ·rw [if_neg e2] at h2
    have h2:=of_decide_eq_true h2
    rw [if_neg (by lia)]; exact decide_eq_true (by lia)
theorem cle_prefix {k t:T} (h:k.isPrefixOf t = true):cle k t = true:=by
 rw [cle_at,lcp_full.mpr h]; simp
theorem squeeze:∀ (m:Nat) (a b c t:T),cle a b = true->cle b c = true->m <= lcp a t->m <= lcp c t->m <= lcp b t
 | 0,_,_,_,_,_,_,_,_=>by simp
 | m + 1,[],_,_,_,_,_,h,_=>by simp [lcp] at h
 | m + 1,_ :: _,_,_,[],_,_,h,_=>by simp [lcp] at h
 | m + 1,_ :: _,_,[],_ :: _,_,_,_,h=>by simp [lcp] at h
 | m + 1,x :: a,[],_,_,h,_,_,_=>by simp [cle] at h
 | m + 1,x :: a,y :: b,z :: c,u :: t,h1,h2,h3,h4=>by
  unfold lcp at h3 h4 ⊢
  split at h3
  ·rename_i e3
   split at h4
   ·rename_i e4
    subst e3; subst e4
    unfold cle at h1 h2
    by_cases e:z = y
    ·subst e
     rw [if_pos rfl] at h1 h2 ⊢
     have:=squeeze m a b c t h1 h2 (by lia) (by lia)
     lia
    ·exfalso
     rw [if_neg e] at h1
     rw [if_neg (Ne.symm e)] at h2
     have h1:=of_decide_eq_true h1
     have h2:=of_decide_eq_true h2
     lia
   ·lia
  ·lia
structure TabOk (key:T->T) (tb:List (T × Int × Int)):Prop where
 pos:0 < tb.length
 small:tb.length <= 100
 lens:∀ e ∈ tb,(key e.1).length = e.1.length /\ e.1.length <= 100
 sorted:∀ i j (hi:i < tb.length) (hj:j < tb.length),i <= j->cle (key tb[i].1) (key tb[j].1) = true
 sub:∀ i (hi:i < tb.length),(tb[i].2.1 < 0 /\ ∀ e ∈ tb,(key e.1).isPrefixOf (key tb[i].1) = true->(key tb[i].1).isPrefixOf (key e.1) = true) \/
  ∃ m,∃ hm:m < tb.length,m < i /\ tb[i].2.1 = (m:Int) /\ (key tb[m].1).isPrefixOf (key tb[i].1) = true /\ ∀ e ∈ tb,(key e.1).isPrefixOf (key tb[i].1) = true->(key tb[i].1).isPrefixOf (key e.1) = true \/ (key e.1).isPrefixOf (key tb[m].1) = true
def Found (key:T->T) (tb:List (T × Int × Int)) (t:T) (i ci:Nat):Prop :=
 ∃ hi:i < tb.length,(ci = lcp (key tb[i].1) t /\ cle (key tb[i].1) t = true /\ ∀ j (hj:j < tb.length),i < j->cle (key tb[j].1) t = false) \/ (i = 0 /\ ci = 0 /\ ∀ j (hj:j < tb.length),cle (key tb[j].1) t = false)
structure Inv (key:T->T) (tb:List (T × Int × Int)) (t:T) (i j ci cj:Nat) (fki:Bool):Prop where
 lt:i < j
 le:j <= tb.length
 A:(i = 0 /\ ci = 0) \/ ∃ hi:i < tb.length,cle (key tb[i].1) t = true /\ ci = lcp (key tb[i].1) t
 B:(j = tb.length /\ cj = 0) \/ ∃ hj:j < tb.length,cle (key tb[j].1) t = false /\ cj = lcp (key tb[j].1) t
 fk:fki = true->i = 0 /\ j = 1
section
variable {C:Tbl} {n:Nat} {s:Stem} {tb:List (T × Int × Int)} {key:T->T} {t:T}
theorem above (O:TabOk key tb) {j:Nat} (B:(j = tb.length) \/ ∃ hj:j < tb.length,cle (key tb[j].1) t = false):∀ j' (hj:j' < tb.length),j <= j'->cle (key tb[j'].1) t = false:=by
 intro j' hj hle
 rcases B with e | ⟨hj0,h⟩
 ·lia
 ·cases z:cle (key tb[j'].1) t with
  | false=>rfl
  | true=>rw [cle_trans _ _ _ (O.sorted j j' hj0 hj hle) z] at h; cases h
theorem Inv.B' {i j ci cj:Nat} {fki:Bool} (I:Inv key tb t i j ci cj fki):(j = tb.length) \/ ∃ hj:j < tb.length,cle (key tb[j].1) t = false:=I.B.elim (fun h=>.inl h.1) fun ⟨h,g,_⟩=>.inr ⟨h,g⟩
theorem Inv.min_le (O:TabOk key tb) {i j ci cj:Nat} {fki:Bool} (I:Inv key tb t i j ci cj fki) {k:Nat} (hk:k < tb.length) (h1:i <= k) (h2:k < j):min ci cj <= lcp (key tb[k].1) t:=by
 rcases I.A with ⟨_,e⟩ | ⟨hi,_,e⟩
 ·lia
 ·rcases I.B with ⟨_,e'⟩ | ⟨hj,_,e'⟩
  ·lia
  ·exact squeeze _ _ _ _ t (O.sorted i k hi hk h1) (O.sorted k j hk hj (by lia)) (by lia) (by lia)
end
def IsBest (key:T->T) (tb:List (T × Int × Int)) (t:T):Option (T × Int × Int)->Prop
 | some e=>e ∈ tb /\ (key e.1).isPrefixOf t = true /\ ∀ e' ∈ tb,(key e'.1).isPrefixOf t = true->(key e'.1).length <= (key e.1).length
 | none=>∀ e ∈ tb,(key e.1).isPrefixOf t = false
theorem pre_refl (a:T):a.isPrefixOf a = true:=by rw [List.isPrefixOf_iff_prefix]; exact List.prefix_refl a
theorem pre_trans {a b c:T} (h:a.isPrefixOf b = true) (h':b.isPrefixOf c = true):a.isPrefixOf c = true:=by
 rw [List.isPrefixOf_iff_prefix] at *; exact h.trans h'
theorem pre_len {a b:T} (h:a.isPrefixOf b = true):a.length <= b.length:=by
 rw [List.isPrefixOf_iff_prefix] at h; exact h.length_le
theorem pre_take {a b:T} (h:a.isPrefixOf b = true):b.take a.length = a:=by
 rw [isPrefixOf_iff,decide_eq_true_iff] at h; exact h
theorem take_pre {a b:T} (h:b.take a.length = a):a.isPrefixOf b = true:=by
 rw [isPrefixOf_iff,decide_eq_true_iff]; exact h
theorem lcp_self (t:T):lcp t t = t.length:=lcp_full.mpr (pre_refl t)
theorem pre_lcp {p k t:T} (h:p.isPrefixOf k = true):p.length <= lcp k t ↔ p.isPrefixOf t = true:=by
 have h1:=pre_take h
 have h2:=pre_len h
 constructor
 ·intro hl
  refine take_pre ?_
  rw [<- lcp_take k t _ hl]; exact h1
 ·intro hp
  exact lcp_ge k t _ h2 (pre_len hp) (by rw [h1,pre_take hp])
section
variable {C:Tbl} {n:Nat} {s:Stem} {tb:List (T × Int × Int)} {key:T->T} {t:T}
theorem found_start (O:TabOk key tb) {i ci:Nat} (Fd:Found key tb t i ci):∃ hi:i < tb.length,(∀ e ∈ tb,(key e.1).isPrefixOf (key tb[i].1) = true->((key e.1).length <= ci ↔ (key e.1).isPrefixOf t = true)) /\
 (∀ e ∈ tb,(key e.1).isPrefixOf t = true->(key e.1).isPrefixOf (key tb[i].1) = true):=by
 obtain ⟨hi,h⟩:=Fd
 refine ⟨hi,?_⟩
 rcases h with ⟨rfl,h1,h2⟩ | ⟨rfl,rfl,h2⟩
 ·refine ⟨fun e _ he=>pre_lcp he,fun e hm he=>?_⟩
  obtain ⟨j,hj,rfl⟩:=List.getElem_of_mem hm
  rcases Nat.lt_or_ge i j with z | z
  ·have:=h2 j hj z
   rw [cle_prefix he] at this; cases this
  ·have hl:(key tb[j].1).length <= lcp (key tb[j].1) t:=by rw [lcp_full.mpr he]; exact Nat.le_refl _
   have:=squeeze _ (key tb[j].1) (key tb[i].1) t t (O.sorted j i hj hi z) h1 hl (by rw [lcp_self]; exact pre_len he)
   refine take_pre ?_
   rw [lcp_take _ _ _ this]; exact pre_take he
 ·refine ⟨fun e hm he=>⟨fun hl=>?_,fun hp=>?_⟩,fun e hm he=>?_⟩
  all_goals (obtain ⟨j,hj,rfl⟩:=List.getElem_of_mem hm; have h3:=h2 j hj)
  ·have:key tb[j].1 = []:=List.length_eq_zero_iff.mp (by lia)
   rw [this] at h3; simp [cle] at h3
  ·rw [cle_prefix hp] at h3; cases h3
  ·rw [cle_prefix he] at h3; cases h3
end
noncomputable def sortedB:List T->Bool
 | []=>true
 | x :: r=>r.all (cle x) && sortedB r
noncomputable def subB (key:T->T) (tb:List (T × Int × Int)) (i:Nat) (e:T × Int × Int):Bool :=
 if e.2.1 < 0 then tb.all fun e'=>!(key e'.1).isPrefixOf (key e.1) || (key e.1).isPrefixOf (key e'.1)
 else match tb[e.2.1.toNat]? with
  | none=>false
  | some em=>decide (e.2.1.toNat < i) && (key em.1).isPrefixOf (key e.1) && tb.all fun e'=>!(key e'.1).isPrefixOf (key e.1) || (key e.1).isPrefixOf (key e'.1) || (key e'.1).isPrefixOf (key em.1)
noncomputable def subsB (key:T->T) (tb:List (T × Int × Int)):Nat->List (T × Int × Int)->Bool
 | _,[]=>true
 | i,e :: r=>subB key tb i e && subsB key tb (i + 1) r
noncomputable def tabB (key:T->T) (tb:List (T × Int × Int)):Bool :=
 decide (0 < tb.length) && decide (tb.length <= 100) && (tb.all fun e=>decide ((key e.1).length = e.1.length) && decide (e.1.length <= 100)) && sortedB (tb.map fun e=>key e.1) && subsB key tb 0 tb
theorem cle_refl (a:T):cle a a = true:=cle_prefix (pre_refl a)
theorem sortedB_spec:∀ {l:List T},sortedB l = true->∀ i j (hi:i < l.length) (hj:j < l.length),i <= j->cle l[i] l[j] = true
 | x :: r,h,0,0,_,_,_=>cle_refl x
 | x :: r,h,0,j + 1,_,hj,_=>by
  unfold sortedB at h
  rw [Bool.and_eq_true,List.all_eq_true] at h
  exact h.1 _ (List.getElem_mem (by simpa using hj))
 | x :: r,h,i + 1,0,_,_,h2=>by lia
 | x :: r,h,i + 1,j + 1,hi,hj,h2=>by
  unfold sortedB at h
  rw [Bool.and_eq_true] at h
  exact sortedB_spec h.2 i j (by simpa using hi) (by simpa using hj) (by lia)
theorem subsB_spec {key:T->T} {tb:List (T × Int × Int)}:∀ {l:List (T × Int × Int)} {k:Nat},subsB key tb k l = true->∀ i (hi:i < l.length),subB key tb (k + i) l[i] = true
 | e :: r,k,h,0,_=>by
  unfold subsB at h; rw [Bool.and_eq_true] at h; exact h.1
 | e :: r,k,h,i + 1,hi=>by
  unfold subsB at h; rw [Bool.and_eq_true] at h
  have:=subsB_spec h.2 i (by simpa using hi)
  rw [show k + (i + 1) = k + 1 + i by lia]; exact this
theorem tab_ok {key:T->T} {tb:List (T × Int × Int)} (h:tabB key tb = true):TabOk key tb:=by
 unfold tabB at h
 simp only [Bool.and_eq_true,decide_eq_true_eq,List.all_eq_true] at h
 obtain ⟨⟨⟨⟨h1,h2⟩,h3⟩,h4⟩,h5⟩:=h
 refine ⟨h1,h2,h3,fun i j hi hj hij=>?_,fun i hi=>?_⟩
 ·have:=sortedB_spec h4 i j (by simpa using hi) (by simpa using hj) hij
  simpa using this
 ·have:=subsB_spec h5 i hi
  rw [Nat.zero_add] at this
  unfold subB at this
  split at this
  ·rename_i hneg
   rw [List.all_eq_true] at this
   refine .inl ⟨hneg,fun e he hp=>?_⟩
   have:=this e he
   rw [Bool.or_eq_true,Bool.not_eq_true'] at this
   rcases this with z | z
   ·rw [hp] at z; cases z
   ·exact z
  ·rename_i hneg
   split at this
   ·cases this
   ·rename_i em hem
    simp only [Bool.and_eq_true,decide_eq_true_eq,List.all_eq_true] at this
    obtain ⟨⟨g1,g2⟩,g3⟩:=this
    obtain ⟨hm,rfl⟩:=List.getElem?_eq_some_iff.mp hem
    refine .inr ⟨_,hm,g1,by lia,g2,fun e he hp=>?_⟩
    have:=g3 e he
    rw [Bool.or_eq_true,Bool.or_eq_true,Bool.not_eq_true'] at this
    rcases this with (z | z) | z
    ·rw [hp] at z; cases z
    ·exact .inl z
    ·exact .inr z
theorem ok0:TabOk id t0L:=tab_ok (by decide +kernel)
theorem ok1:TabOk id t1L:=tab_ok (by decide +kernel)
theorem ok2:TabOk List.reverse t2L:=tab_ok (by decide +kernel)
theorem ok3:TabOk List.reverse t3L:=tab_ok (by decide +kernel)
theorem ok4:TabOk List.reverse t4L:=tab_ok (by decide +kernel)
theorem ok5:TabOk List.reverse t5L:=tab_ok (by decide +kernel)
theorem ok6:TabOk List.reverse t6L:=tab_ok (by decide +kernel)
theorem ok7:TabOk List.reverse t7L:=tab_ok (by decide +kernel)
theorem ok8:TabOk List.reverse t8L:=tab_ok (by decide +kernel)
theorem ok9:TabOk List.reverse t9L:=tab_ok (by decide +kernel)
noncomputable def lendF (x f:T) (e:T):T:=if e.length > f.length && e.isSuffixOf x then e else f
noncomputable def lend (ends:List T) (x:T):T:=ends.foldl (lendF x) []
theorem lend_go (x:T):∀ (ends:List T) (f:T),f.isSuffixOf x = true->(ends.foldl (lendF x) f = f \/ ends.foldl (lendF x) f ∈ ends) /\ (ends.foldl (lendF x) f).isSuffixOf x = true /\ f.length <= (ends.foldl (lendF x) f).length /\ ∀ e ∈ ends,e.isSuffixOf x = true->e.length <= (ends.foldl (lendF x) f).length
 | [],f,hf=>⟨.inl rfl,hf,Nat.le_refl _,fun e he=>nomatch he⟩
 | a :: r,f,hf=>by
  simp only [List.foldl_cons]
  unfold lendF
  by_cases h:(decide (a.length > f.length) && a.isSuffixOf x) = true
  ·rw [if_pos h]
   rw [Bool.and_eq_true,decide_eq_true_eq] at h
   obtain ⟨h1,h2,h3,h4⟩:=lend_go x r a h.2
   refine ⟨.inr (h1.elim (fun e=>by unfold lendF at e; rw [e]; exact .head _) fun m=>.tail _ m),h2,by unfold lendF at h3; lia,fun e he hs=>?_⟩
   rcases List.mem_cons.mp he with rfl | he
   ·exact h3
   ·exact h4 e he hs
  ·rw [if_neg h]
   obtain ⟨h1,h2,h3,h4⟩:=lend_go x r f hf
   refine ⟨h1.elim .inl fun m=>.inr (.tail _ m),h2,h3,fun e he hs=>?_⟩
   rcases List.mem_cons.mp he with rfl | he
   ·rw [Bool.and_eq_true,decide_eq_true_eq] at h
    have:¬ e.length > f.length:=fun z=>h ⟨z,hs⟩
    unfold lendF at h3; lia
   ·exact h4 e he hs
theorem suf_nil (x:T):([]:T).isSuffixOf x = true:=by rw [List.isSuffixOf_iff_suffix]; exact List.nil_suffix
theorem lend_spec (ends:List T) (x:T):(lend ends x = [] \/ lend ends x ∈ ends) /\ (lend ends x).isSuffixOf x = true /\ ∀ e ∈ ends,e.isSuffixOf x = true->e.length <= (lend ends x).length :=
 let ⟨h1,h2,_,h4⟩:=lend_go x ends [] (suf_nil x); ⟨h1,h2,h4⟩
theorem suf_eq {a b x:T} (ha:a.isSuffixOf x = true) (hb:b.isSuffixOf x = true) (h:a.length = b.length):a = b:=by
 rw [List.isSuffixOf_iff_suffix] at ha hb
 obtain ⟨p,rfl⟩:=ha
 obtain ⟨q,e⟩:=hb
 exact (List.append_inj' e h.symm).2.symm
theorem rev_pre {a x:T}:a.reverse.isPrefixOf x.reverse = a.isSuffixOf x:=by
 rw [Bool.eq_iff_iff,List.isPrefixOf_iff_prefix,List.isSuffixOf_iff_suffix,List.reverse_prefix]
noncomputable def fa_in (tst ix:IE):ISs:=(ss [.ite (.cmp .Eq tst (.loc 5)) (ss [.asgn 10 (.neg (cI 1)),.brk]) (ss []),.asgn 10 (.bin .Sub (.ord (.idx (f0 .cur) ix)) (.ord (.idx (.amS 12) (.loc 13)))),.ite (.cmp .NotEq (.loc 10) (cI 0)) (ss [.brk]) (ss []),.augL 11 .Add (cI 1)])
noncomputable def fa_out (f:IS):ISs:=(ss [.asgn 9 (.bin .Add (.loc 2) (.bin .RShift (.bin .Sub (.loc 3) (.loc 2)) (cI 1))),.asgn 10 (cI 0),.asgn 11 (.min (.loc 6) (.loc 7)),.asgn 12 (.idx (.loc 1) (.loc 9)),f,.ite (.cmp .Lt (.loc 10) (cI 0)) (ss [.asgn 3 (.loc 9),.asgn 7 (.loc 11)]) (ss [.asgn 2 (.loc 9),.asgn 6 (.loc 11)]),.ite (.cmp .LtE (.bin .Sub (.loc 3) (.loc 2)) (cI 1)) (ss [.ite (.cmp .Gt (.loc 2) (cI 0)) (ss [.brk]) (ss []),.ite (.cmp .Eq (.loc 3) (.loc 2)) (ss [.brk]) (ss []),.ite (.loc 8) (ss [.brk]) (ss []),.asgn 8 (.con (.bool true))]) (ss [])])
noncomputable def fa_ch (op:Operator):ISs:=(ss [.asgn 12 (.idx (.loc 1) (.loc 2)),.ite (.cmp .GtE (.loc 6) (.len (.amS 12))) (ss [.asgnF 0 .csr (.bin op (.loc 4) (.len (.amS 12))),.ret (.amR 12)]) (ss []),.asgn 2 (.amI 12),.ite (.cmp .Lt (.loc 2) (cI 0)) (ss [.ret (cI 0)]) (ss [])])
noncomputable def LL (tb:List (T × Int × Int)) (i j c l ci cj:Int) (fki:Bool) (k d com w i2:Option V):Lc :=
 [some .self,some (.list (tb.map amV)),some (.int i),some (.int j),some (.int c),some (.int l),some (.int ci),some (.int cj),some (.bool fki),k,d,com,w,i2]
theorem range_up {p q:Int} (h:p < q):rangeV p q 1 = .int p :: rangeV (p + 1) q 1:=by
 have e:(q - p).toNat = (q - (p + 1)).toNat + 1:=by lia
 unfold rangeV
 rw [if_pos rfl,if_pos rfl,e,List.range_succ_eq_map,List.map_cons,List.map_map]
 congr 1
 ·simp
 ·apply List.map_congr_left; intro x _; simp only [Function.comp]; congr 1; push_cast; lia
theorem range_up0 {p q:Int} (h:q <= p):rangeV p q 1 = []:=by
 have e:(q - p).toNat = 0:=by lia
 unfold rangeV
 rw [if_pos rfl,e]; rfl
theorem range_dn {p q:Int} (h:q < p):rangeV p q (-1) = .int p :: rangeV (p - 1) q (-1):=by
 have e:(p - q).toNat = (p - 1 - q).toNat + 1:=by lia
 have n:¬ ((-1:Int) = 1):=by decide
 unfold rangeV
 rw [if_neg n,if_neg n,e,List.range_succ_eq_map,List.map_cons,List.map_map]
 congr 1
 ·simp
 ·apply List.map_congr_left; intro x _; simp only [Function.comp]; congr 1; push_cast; lia
theorem range_dn0 {p q:Int} (h:p <= q):rangeV p q (-1) = []:=by
 have e:(p - q).toNat = 0:=by lia
 unfold rangeV
 rw [if_neg (by decide),e]; rfl
theorem cle_end {K t:T} {m:Nat} (e:lcp K t = m) (h1:m < K.length) (h2:m = t.length):cle K t = false:=by
 rw [cle_at,e,List.getElem?_eq_getElem h1,List.getElem?_eq_none (by lia)]
theorem lcp_up {K t:T} {m x:Nat} (hm:m <= lcp K t) (e1:K[m]? = some x) (e2:t[m]? = some x):m + 1 <= lcp K t:=by
 refine lcp_ge K t (m + 1) (List.getElem?_eq_some_iff.mp e1).1 (List.getElem?_eq_some_iff.mp e2).1 ?_
 rw [List.take_add_one,List.take_add_one,lcp_take K t m hm,e1,e2]
theorem lcp_here {K t:T} {m x y:Nat} (hm:m <= lcp K t) (e1:K[m]? = some x) (e2:t[m]? = some y) (h:x ≠ y):lcp K t = m:=by
 rcases Nat.lt_or_ge m (lcp K t) with z | z
 ·exfalso
  have h1:=lcp_take K t (m + 1) z
  rw [List.take_add_one,List.take_add_one,lcp_take K t m hm,e1,e2] at h1
  have h2:=List.append_cancel_left h1
  simp at h2
  exact h h2
 ·exact Nat.le_antisymm z hm
section
variable {C:Tbl} {n:Nat} {cur:T} {csr lm lb bra ket:Int} {p2 p1 pV:Option Int} {tb:List (T × Int × Int)}
theorem inner {tst ix:IE} {F G H:Nat->Int} {R:Nat->List V} {i j c l ci cj:Int} {fki:Bool} {k:Option V} {ks K t:T} {a b:Int}
 (hts:∀ (m:Nat) d i2 Q,Q (.int (F m)) ⟨cur,csr,lm,lb,bra,ket,p2,p1,pV⟩->wpE C tst (LL tb i j c l ci cj fki k d (some (.int (m:Int))) (some (.amg ks a b)) i2) ⟨cur,csr,lm,lb,bra,ket,p2,p1,pV⟩ Q)
 (hix:∀ (m:Nat) d i2 Q,Q (.int (G m)) ⟨cur,csr,lm,lb,bra,ket,p2,p1,pV⟩->wpE C ix (LL tb i j c l ci cj fki k d (some (.int (m:Int))) (some (.amg ks a b)) i2) ⟨cur,csr,lm,lb,bra,ket,p2,p1,pV⟩ Q)
 (hR:∀ m,m < K.length->R m = .int (H m) :: R (m + 1)) (hR0:R K.length = [])
 (hK:∀ m,m < K.length->pyAt ks (H m) = K[m]?) (hT:∀ m,m < t.length->pyAt cur (G m) = t[m]?)
 (hE:∀ m,m <= t.length->(F m = l ↔ m = t.length)):∀ (r m:Nat) (i2:Option V) (Q:QS),r + m = K.length->m <= lcp K t ->
 (∀ (d:Int) (i2':Option V),(d < 0 ↔ cle K t = false)->Q .next (LL tb i j c l ci cj fki k (some (.int d)) (some (.int ((lcp K t:Nat):Int))) (some (.amg ks a b)) i2') ⟨cur,csr,lm,lb,bra,ket,p2,p1,pV⟩) ->
 WL 13 (wpSs C n (fa_in tst ix)) (R m) (LL tb i j c l ci cj fki k (some (.int 0)) (some (.int (m:Int))) (some (.amg ks a b)) i2) ⟨cur,csr,lm,lb,bra,ket,p2,p1,pV⟩ Q
 | 0,m,i2,Q,hr,hm,h=>by
  have e:lcp K t = m:=by have:=lcp_le K t; lia
  have e1:m = K.length:=by lia
  have h:=h 0 i2 (by rw [cle_at,e,e1]; simp)
  rw [e] at h
  rw [e1,hR0,<- e1]
  exact WL.nil h
 | r + 1,m,i2,Q,hr,hm,h=>by
  have hlt:m < K.length:=by lia
  have hle:lcp K t <= t.length:=lcp_le' K t
  rw [hR m hlt]
  refine WL.cons ?_
  refine hts m _ _ _ ?_
  refine Br.dec (fun he=>?_) (fun he=>?_)
  ·have hmt:=(hE m (by lia)).mp he
   have e:lcp K t = m:=by lia
   have h:=h (-1) (some (.int (H m))) ⟨fun _=>cle_end e hlt hmt,fun _=>by decide⟩
   rw [e] at h
   exact h
  ·have hmt:m < t.length:=by
    rcases Nat.lt_or_ge m t.length with z | z
    ·exact z
    ·exact absurd ((hE m (by lia)).mpr (by lia)) he
   have e1:K[m]? = some K[m]:=List.getElem?_eq_getElem hlt
   have e2:t[m]? = some t[m]:=List.getElem?_eq_getElem hmt
   generalize K[m] = x at *
   generalize t[m] = y at *
   refine hix m _ _ _ ?_
   refine Idx.of ((hT m hmt).trans e2) ?_
   refine Idx.of ((hK m hlt).trans e1) ?_
   refine Br.not (Br.dec (fun hd=>?_) (fun hd=>?_))
   ·have hd':x = y:=by lia
    have:=inner hts hix hR hR0 hK hT hE r (m + 1) (some (.int (H m))) Q (by lia) (lcp_up hm e1 (by rw [hd']; exact e2)) h
    rw [show ((m + 1:Nat):Int) = (m:Int) + 1 by lia,<- hd] at this
    exact this.ex
   ·have e:lcp K t = m:=lcp_here hm e1 e2 (by lia)
    have h:=h ((y:Int) - (x:Int)) (some (.int (H m))) (by rw [cle_at,e,e1,e2]; simp only [decide_eq_false_iff_not]; lia)
    rw [e] at h
    exact h
theorem small_of {n:Int} (h1:-1000000000 < n) (h2:n < 1000000000):small n = true:=by unfold small; rw [decide_eq_true h1,decide_eq_true h2]; rfl
variable {key:T->T} {t:T}
theorem tb_at {k:Nat} (hk:k < tb.length):pyAt (tb.map amV) (k:Int) = some (amV tb[k]):=by rw [pyAt_nat]; simp [hk]
theorem outer {f:IS} {c l:Int} (hC:C.loose = true) (O:TabOk key tb)
 (hin:∀ (kk:Nat) (hk:kk < tb.length) (m:Nat) (i j ci cj:Int) (fki:Bool) (k i2:Option V) (Q:QS),m <= lcp (key tb[kk].1) t ->
  (∀ (d:Int) (i2':Option V),(d < 0 ↔ cle (key tb[kk].1) t = false)->Q .next (LL tb i j c l ci cj fki k (some (.int d)) (some (.int ((lcp (key tb[kk].1) t:Nat):Int))) (some (amV tb[kk])) i2') ⟨cur,csr,lm,lb,bra,ket,p2,p1,pV⟩) ->
  wpS C n f (LL tb i j c l ci cj fki k (some (.int 0)) (some (.int (m:Int))) (some (amV tb[kk])) i2) ⟨cur,csr,lm,lb,bra,ket,p2,p1,pV⟩ Q) {Q:QS}
 (hQ:∀ (i j ci cj:Nat) (fki:Bool) (k d com w i2:Option V),Found key tb t i ci->Q .next (LL tb i j c l ci cj fki k d com w i2) ⟨cur,csr,lm,lb,bra,ket,p2,p1,pV⟩) :
 ∀ (r i j ci cj:Nat) (fki:Bool) (k d com w i2:Option V),Inv key tb t i j ci cj fki->(j - i) + (if fki then 0 else 1) <= r ->
 WW (wpE C (.con (.bool true))) (wpSs C n (fa_out f)) r (LL tb i j c l ci cj fki k d com w i2) ⟨cur,csr,lm,lb,bra,ket,p2,p1,pV⟩ Q
 | 0,i,j,ci,cj,fki,k,d,com,w,i2,I,hr=>by have:=I.lt; lia
 | r + 1,i,j,ci,cj,fki,k,d,com,w,i2,I,hr=>by
  have hlt:=I.lt
  have hle:=I.le
  obtain ⟨kk,hkk,hk1,hk2,hk3⟩:∃ kk:Nat,(i:Int) + ((j:Int) - (i:Int)) / 2 = (kk:Int) /\ i <= kk /\ kk < j /\ (i + 2 <= j->i < kk):=⟨i + (j - i) / 2,by lia,by lia,by lia,by lia⟩
  have hkn:kk < tb.length:=by lia
  have hmin:(if (cj:Int) < (ci:Int) then (cj:Int) else (ci:Int)) = ((min ci cj:Nat):Int):=by split <;> lia
  have hmle:=I.min_le O hkn hk1 hk2
  have again:=outer hC O hin hQ r
  have hf1:¬ fki = true->(if fki then 0 else 1) = 1:=fun z=>by rw [if_neg z]
  have hQf:=fun (j' cj':Nat) (k d com w i2:Option V) ci' Fd=>hQ i j' ci' cj' fki k d com w i2 Fd
  refine WW.step ?_
  refine Br.tr ?_
  refine Must.mk (by rw [Bool.and_eq_true]; exact ⟨decide_eq_true (by lia),rfl⟩) ?_
  refine Must.mk hC ?_
  conv=>whnf
  rw [hkk,hmin]
  refine Idx.of (tb_at hkn) ?_
  refine hin kk hkn (min ci cj) i j ci cj fki _ _ _ hmle fun d' i2' hd=>?_
  clear hkk hmin hmle hin hQf
  refine Br.dec (fun h1=>?_) (fun h1=>?_)
  ·have hcle:=hd.mp h1
   have hab:=above O (.inr ⟨hkn,hcle⟩)
   have again:=again i kk ci (lcp (key tb[kk].1) t)
   have hQ:=hQ i kk ci (lcp (key tb[kk].1) t) fki
   refine Br.dec (fun h2=>?_) (fun h2=>?_)
   ·conv=>whnf
    refine Br.dec (fun h3=>?_) (fun h3=>?_)
    ·refine hQ _ _ _ _ _ ?_
     rcases I.A with ⟨e,_⟩ | ⟨hi,a1,a2⟩
     ·lia
     ·exact ⟨hi,.inl ⟨a2,a1,fun j' hj' hij=>hab j' hj' (by lia)⟩⟩
    ·have hi0:i = 0:=by lia
     refine Br.dec (fun h4=>?_) (fun h4=>?_)
     ·refine hQ _ _ _ _ _ ?_
      have hk0:kk = 0:=by lia
      subst hk0
      subst hi0
      refine ⟨O.pos,.inr ⟨rfl,?_,fun j' hj'=>hab j' hj' (Nat.zero_le _)⟩⟩
      rcases I.A with ⟨_,e⟩ | ⟨hi,a1,a2⟩
      ·exact e
      ·rw [a1] at hcle; cases hcle
     ·have hk1':kk = 1:=by lia
      refine Br.mk (fun h5=>?_) (fun h5=>?_)
      ·exfalso
       have:=(I.fk h5).2
       lia
      ·exact (again true _ _ _ _ _ ⟨by lia,by lia,I.A,.inr ⟨hkn,hcle,rfl⟩,fun _=>⟨hi0,hk1'⟩⟩ (by rw [hf1 (by rw [h5]; exact fT)] at hr; simp; lia)).ex
   ·have hf:¬ fki = true:=fun z=>by have:=I.fk z; lia
    exact (again fki _ _ _ _ _ ⟨by lia,by lia,I.A,.inr ⟨hkn,hcle,rfl⟩,fun z=>(hf z).elim⟩ (by rw [hf1 hf] at hr ⊢; lia)).ex
  ·have hcle:cle (key tb[kk].1) t = true:=by
    cases z:cle (key tb[kk].1) t with
    | true=>rfl
    | false=>exact absurd (hd.mpr z) h1
   have again:=again kk j (lcp (key tb[kk].1) t) cj
   have hQ:=hQ kk j (lcp (key tb[kk].1) t) cj fki
   have hab:=above O I.B'
   refine Br.dec (fun h2=>?_) (fun h2=>?_)
   ·have hfound:Found key tb t kk (lcp (key tb[kk].1) t):=⟨hkn,.inl ⟨rfl,hcle,fun j' hj' hij=>hab j' hj' (by lia)⟩⟩
    refine Br.dec (fun h3=>hQ _ _ _ _ _ hfound) (fun h3=>?_)
    refine Br.dec (fun h4=>hQ _ _ _ _ _ hfound) (fun h4=>?_)
    refine Br.mk (fun h5=>hQ _ _ _ _ _ hfound) (fun h5=>?_)
    exact (again true _ _ _ _ _ ⟨by omega,by omega,.inr ⟨hkn,hcle,rfl⟩,I.B,fun _=>⟨by lia,by lia⟩⟩ (by rw [hf1 (by rw [h5]; exact fT)] at hr; simp; lia)).ex
   ·have hf:¬ fki = true:=fun z=>by have:=I.fk z; lia
    exact (again fki _ _ _ _ _ ⟨by omega,by omega,.inr ⟨hkn,hcle,rfl⟩,I.B,fun z=>(hf z).elim⟩ (by rw [hf1 hf] at hr ⊢; lia)).ex
theorem chain {op:Operator} {X:Int->Int} {c l cj j:Int} {fki:Bool} {ci:Nat} (O:TabOk key tb) (hop:∀ (x:Int) (P:V->Prop),P (.int (X x))->wBin op (.int c) (.int x) P) {Q:QS}
 (hQ1:∀ e l',IsBest key tb t (some e)->Q (.ret (.int e.2.2)) l' ⟨cur,X (e.1.length:Int),lm,lb,bra,ket,p2,p1,pV⟩) (hQ0:∀ l',IsBest key tb t none->Q (.ret (.int 0)) l' ⟨cur,csr,lm,lb,bra,ket,p2,p1,pV⟩) :
 ∀ (r i:Nat) (hi:i < tb.length) (k d com w i2:Option V),i < r->(∀ e ∈ tb,(key e.1).isPrefixOf (key tb[i].1) = true->((key e.1).length <= ci ↔ (key e.1).isPrefixOf t = true)) ->
  (∀ e ∈ tb,(key e.1).isPrefixOf t = true->(key e.1).isPrefixOf (key tb[i].1) = true)->WW (wpE C (.con (.bool true))) (wpSs C n (fa_ch op)) r (LL tb i j c l ci cj fki k d com w i2) ⟨cur,csr,lm,lb,bra,ket,p2,p1,pV⟩ Q
 | 0,i,hi,k,d,com,w,i2,hr,_,_=>by lia
 | r + 1,i,hi,k,d,com,w,i2,hr,hD,hM=>by
  have hmem:tb[i] ∈ tb:=List.getElem_mem hi
  have hl1:=(O.lens _ hmem).1
  have hDi:=hD _ hmem (pre_refl _)
  refine WW.step ?_
  refine Br.tr ?_
  refine Idx.of (tb_at hi) ?_
  refine Br.dec (fun h1=>?_) (fun h1=>?_)
  ·conv=>whnf
   refine hop _ _ ?_
   exact hQ1 tb[i] _ ⟨hmem,hDi.mp (by lia),fun e' he' hp=>pre_len (hM e' he' hp)⟩
  ·have hno:(key tb[i].1).isPrefixOf t = false:=by
    cases z:(key tb[i].1).isPrefixOf t with
    | false=>rfl
    | true=>exact absurd (hDi.mpr z) (by lia)
   refine Br.dec (fun h2=>?_) (fun h2=>?_)
   ·refine hQ0 _ fun e he=>?_
    cases z:(key e.1).isPrefixOf t with
    | false=>rfl
    | true =>
     rcases O.sub i hi with ⟨_,h3⟩ | ⟨m,hm,_,h3,_⟩
     ·have:=pre_trans (h3 e he (hM e he z)) z
      rw [hno] at this; cases this
     ·lia
   ·rcases O.sub i hi with ⟨h3,_⟩ | ⟨m,hm,hmi,h3,h4,h5⟩
    ·exact absurd h3 h2
    ·have:=chain (l:=l) (cj:=cj) (j:=j) (fki:=fki) O hop hQ1 hQ0 r m hm k d com (some (amV tb[i])) i2 (by lia) (fun e he hp=>hD e he (pre_trans hp h4)) fun e he hp=>by
      rcases h5 e he (hM e he hp) with z | z
      ·have:=pre_trans z hp
       rw [hno] at this; cases this
      ·exact z
     rw [<- h3] at this
     exact this.ex
end
section
variable {C:Tbl} {cur pre suf a b:T} {csr lm lb bra ket:Int} {p2 p1 pV:Option Int} {tb:List (T × Int × Int)} {Q:QE}
noncomputable def forF:IS:=.forR 13 (.loc 11) (.len (.amS 12)) (cI 1) (fa_in (.bin .Add (.loc 4) (.loc 11)) (.bin .Add (.loc 4) (.loc 11)))
noncomputable def forBk:IS:=.forR 13 (.bin .Sub (.bin .Sub (.len (.amS 12)) (cI 1)) (.loc 11)) (.neg (cI 1)) (.neg (cI 1)) (fa_in (.bin .Sub (.loc 4) (.loc 11)) (.bin .Sub (.bin .Sub (.loc 4) (cI 1)) (.loc 11)))
theorem must_range {lo:Bool} {p q r:Int} {P:Prop} (hl:lo = true) (h1:-1000000000 < p /\ p < 1000000000) (h2:-1000000000 < q /\ q < 1000000000) (h3:(decide (r = 1) || decide (r = -1)) = true) (h:P):Must (lo && small p && small q && (decide (r = 1) || decide (r = -1))) P :=
 ⟨by rw [hl,small_of h1.1 h1.2,small_of h2.1 h2.2,h3]; rfl,h⟩
theorem amongF_W (hC:C.loose = true) (O:TabOk id tb) (hcur:cur = pre ++ suf) (hcsr:csr = pre.length) (hlim:lm = (pre ++ suf).length)
 (h0:(∀ e ∈ tb,e.1.isPrefixOf suf = false)->Q (.int 0) ⟨cur,csr,lm,lb,bra,ket,p2,p1,pV⟩) (h1:∀ e r,suf = e.1 ++ r->e ∈ tb->(∀ e' ∈ tb,e'.1.isPrefixOf suf = true->e'.1.length <= e.1.length)->Q (.int e.2.2) ⟨cur,csr + e.1.length,lm,lb,bra,ket,p2,p1,pV⟩) :
 WM (nT C) .find_among [.list (tb.map amV)] ⟨cur,csr,lm,lb,bra,ket,p2,p1,pV⟩ Q:=by
 have hs:=O.small
 have hlen:((tb.map amV).length:Int) = (tb.length:Int):=by rw [List.length_map]
 have hT:∀ m:Nat,m < suf.length->pyAt cur (csr + (m:Int)) = suf[m]?:=fun m hm=>by
  rw [pyAt_eq _ _ (pre.length + m) (by lia),hcur,List.getElem?_append_right (by lia)]; congr 1; lia
 have hE:∀ m:Nat,m <= suf.length->(csr + (m:Int) = lm ↔ m = suf.length):=fun m hm=>by rw [hlim,List.length_append,hcsr]; lia
 refine WM.run rfl ?_
 refine (show WW (wpE C (.con (.bool true))) (wpSs C (n0 + 1) (fa_out forF)) (n0 + 1) (LL tb 0 ((tb.map amV).length:Int) csr lm 0 0 false none none none none none) ⟨cur,csr,lm,lb,bra,ket,p2,p1,pV⟩ _ from ?_)
 rw [hlen]
 refine outer (key:=id) (t:=suf) hC O (fun kk hk m i j ci cj fki k i2 Q hm hq=>?_) (fun i j ci cj fki k d com w i2 Fd=>?_) (n0 + 1) 0 tb.length 0 0 false none none none none none ⟨O.pos,Nat.le_refl _,.inl ⟨rfl,rfl⟩,.inl ⟨rfl,rfl⟩,fun z=>by cases z⟩ (by simp [n0]; lia)
 ·have hl:=(O.lens _ (List.getElem_mem hk)).2
  have hle:=lcp_le (id tb[kk].1) suf
  have hle:lcp (id tb[kk].1) suf <= tb[kk].1.length:=hle
  refine must_range hC ⟨by lia,by lia⟩ ⟨by lia,by lia⟩ rfl ?_
  refine inner (K:=tb[kk].1) (t:=suf) (ks:=tb[kk].1) (F:=fun m=>csr + (m:Int)) (G:=fun m=>csr + (m:Int)) (H:=fun m=>(m:Int)) (R:=fun m=>rangeV (m:Int) (tb[kk].1.length:Int) 1) ?_ ?_ (fun m hm=>?_) (range_up0 (Int.le_refl _)) (fun m _=>pyAt_nat _ _) hT hE (tb[kk].1.length - m) m i2 _ (by lia) hm hq
  ·exact fun _ _ _ _ h=>h
  ·exact fun _ _ _ _ h=>h
  ·rw [range_up (by lia)]; rfl
 ·obtain ⟨hi,hD,hM⟩:=found_start O Fd
  refine chain (t:=suf) (X:=fun x=>csr + x) (op:=.Add) O (fun _ _ h=>h) (fun e l' hb=>?_) (fun l' hb=>h0 hb) (n0 + 1) i hi _ _ _ _ _ (by simp [n0]; lia) hD hM
  obtain ⟨k1,k2,k3⟩:=hb
  have k2:e.1.isPrefixOf suf = true:=k2
  obtain ⟨r,hr⟩:=List.isPrefixOf_iff_prefix.mp k2
  exact h1 e r hr.symm k1 k3
structure Best (tb:List (T × Int × Int)) (b:T) (p:T) (e:T × Int × Int):Prop where
 eq:b = p ++ e.1
 mem:e ∈ tb
 max:∀ e' ∈ tb,e'.1.isSuffixOf b = true->e'.1.length <= e.1.length
theorem amongB_W (hC:C.loose = true) (O:TabOk List.reverse tb) (hcur:cur = a ++ b ++ suf) (hcsr:csr = (a ++ b).length) (hlb:lb = a.length)
 (h0:(∀ e ∈ tb,e.1.isSuffixOf b = false)->Q (.int 0) ⟨cur,csr,lm,lb,bra,ket,p2,p1,pV⟩) (h1:∀ p e,Best tb b p e->Q (.int e.2.2) ⟨cur,csr - e.1.length,lm,lb,bra,ket,p2,p1,pV⟩) :
 WM (nT C) .find_among_b [.list (tb.map amV)] ⟨cur,csr,lm,lb,bra,ket,p2,p1,pV⟩ Q:=by
 have hs:=O.small
 have hlen:((tb.map amV).length:Int) = (tb.length:Int):=by rw [List.length_map]
 have hab:(a ++ b).length = a.length + b.length:=List.length_append
 have hbr:b.reverse.length = b.length:=List.length_reverse
 have hT:∀ m:Nat,m < b.reverse.length->pyAt cur (csr - 1 - (m:Int)) = b.reverse[m]?:=fun m hm=>by
  rw [pyAt_eq _ _ (a.length + (b.length - 1 - m)) (by lia),List.getElem?_reverse (by lia),hcur,List.append_assoc,List.getElem?_append_right (by lia),List.getElem?_append_left (by lia)]; congr 1; lia
 have hE:∀ m:Nat,m <= b.reverse.length->(csr - (m:Int) = lb ↔ m = b.reverse.length):=fun m hm=>by lia
 refine WM.run rfl ?_
 refine (show WW (wpE C (.con (.bool true))) (wpSs C (n0 + 1) (fa_out forBk)) (n0 + 1) (LL tb 0 ((tb.map amV).length:Int) csr lb 0 0 false none none none none none) ⟨cur,csr,lm,lb,bra,ket,p2,p1,pV⟩ _ from ?_)
 rw [hlen]
 refine outer (key:=List.reverse) (t:=b.reverse) hC O (fun kk hk m i j ci cj fki k i2 Q hm hq=>?_) (fun i j ci cj fki k d com w i2 Fd=>?_) (n0 + 1) 0 tb.length 0 0 false none none none none none ⟨O.pos,Nat.le_refl _,.inl ⟨rfl,rfl⟩,.inl ⟨rfl,rfl⟩,fun z=>by cases z⟩ (by simp [n0]; lia)
 ·have hl:=(O.lens _ (List.getElem_mem hk)).2
  have hle:=lcp_le (List.reverse tb[kk].1) b.reverse
  have hkl:(List.reverse tb[kk].1).length = tb[kk].1.length:=List.length_reverse
  refine must_range hC ⟨by lia,by lia⟩ ⟨by lia,by lia⟩ rfl ?_
  refine inner (K:=List.reverse tb[kk].1) (t:=b.reverse) (ks:=tb[kk].1) (F:=fun m=>csr - (m:Int)) (G:=fun m=>csr - 1 - (m:Int)) (H:=fun m=>(tb[kk].1.length:Int) - 1 - (m:Int)) (R:=fun m=>rangeV ((tb[kk].1.length:Int) - 1 - (m:Int)) (-1) (-1)) ?_ ?_ (fun m hm=>?_) (range_dn0 (by lia)) (fun m hm=>?_) hT hE (tb[kk].1.length - m) m i2 _ (by lia) hm hq
  ·exact fun _ _ _ _ h=>h
  ·exact fun _ _ _ _ h=>h
  ·rw [range_dn (by lia),show (tb[kk].1.length:Int) - 1 - (m:Int) - 1 = (tb[kk].1.length:Int) - 1 - ((m + 1:Nat):Int) by lia]
  ·rw [pyAt_eq _ _ (tb[kk].1.length - 1 - m) (by lia),List.getElem?_reverse (by lia)]
 ·obtain ⟨hi,hD,hM⟩:=found_start O Fd
  refine chain (t:=b.reverse) (X:=fun x=>csr - x) (op:=.Sub) O (fun _ _ h=>h) (fun e l' hb=>?_) (fun l' hb=>h0 fun e he=>by rw [<- rev_pre]; exact hb e he) (n0 + 1) i hi _ _ _ _ _ (by simp [n0]; lia) hD hM
  obtain ⟨k1,k2,k3⟩:=hb
  rw [rev_pre] at k2
  obtain ⟨p,hp⟩:=List.isSuffixOf_iff_suffix.mp k2
  exact h1 p e ⟨hp.symm,k1,fun e' he hp=>by have:=k3 e' he (by rw [rev_pre]; exact hp); simpa using this⟩
end
noncomputable def isV (c:Nat):Bool:=gvL.contains [c]
theorem strs_map:∀ l:List T,strs? (l.map .str) = some l
 | []=>rfl
 | x :: r=>congrArg (Option.map (x :: ·)) (strs_map r)
theorem gv_strs:strs? (gvL.map .str) = some gvL:=strs_map _
theorem InL.ok {a:T} {ss:List T} {l:List V} {P:Bool->Prop} (e:strs? l = some ss) (h:P (ss.contains a)):InL a l P:=⟨ss,e,h⟩
noncomputable def strsD:List V->List T
 | []=>[]
 | v :: r=>(match v with | .str s=>s | _=>[]) :: strsD r
theorem InL.lit {a:T} {l:List V} {P:Bool->Prop} (e:l = (strsD l).map .str) (h:P ((strsD l).contains a)):InL a l P:=⟨strsD l,by rw [e,strs_map,<- e],h⟩
theorem Cat.of {m n:T} {P:V->Prop} (h1:m.length <= 90000) (h2:n.length <= 10) (h:P (.str (m ++ n))):Cat m n P:=⟨by rw [List.length_append]; have:lim = 100000:=rfl; lia,h⟩
noncomputable def cutS (w e:T):T:=slice w none (some ((w.length:Int) - e.length))
noncomputable def endS (w:T) (ends:List T) (low:Int):T:=lend ends (slice w (some low) none)
noncomputable def lessS (w:T) (ends:List T) (low:Int):T:=if ((cutS w (endS w ends 0)).length:Int) >= low then cutS w (endS w ends 0) else w
noncomputable def orS (w e:T) (low:Int) (o:T):T:=if ((cutS w e).length:Int) >= low then cutS w e else cutS w e ++ o
theorem slice_le (l:T) (lo hi:Option Int):(slice l lo hi).length <= l.length:=by
 unfold slice
 rw [List.length_drop,List.length_take]
 exact Nat.le_trans (Nat.sub_le _ _) (Nat.min_le_right _ _)
theorem cut_len (w e:T):(cutS w e).length <= w.length:=slice_le _ _ _
theorem less_len (w:T) (ends:List T) (low:Int):(lessS w ends low).length <= w.length:=by
 unfold lessS; split
 ·exact cut_len _ _
 ·exact Nat.le_refl _
theorem endS_mem {w:T} {ends:List T} {low:Int}:endS w ends low = [] \/ endS w ends low ∈ ends:=(lend_spec ends _).1
section
variable {C:Tbl} {s:Stem} {Q:QE} {w e o:T} {ends:List T} {low:Int}
theorem vowels_W (h:Q (.list (gvL.map .str)) s):WF (nT C) .vowels [] s Q:=WF.run rfl rfl h
theorem nouns_W (h:Q nounsV s):WF (nT C) .nouns [] s Q:=⟨⟨rfl,h⟩⟩
theorem verbs_W (h:Q verbsV s):WF (nT C) .verbs [] s Q:=⟨⟨rfl,h⟩⟩
theorem cut_W (h:Q (.str (cutS w e)) s):WF (nT C) .cut [.str w,.str e] s Q:=WF.run rfl rfl h
noncomputable def endB:ISs:=ss [.ite (.bop .And (es [(.cmp .Gt (.len (.loc 4)) (.len (.loc 3))),(.ew (.slc (.loc 0) (.loc 2) (.con .none)) (.loc 4))])) (ss [.asgn 3 (.loc 4)]) (ss [])]
theorem end_loop {n:Nat} {vs:V} {Q:QS}:∀ (r:List T) (f:T) (e:Option V),(∀ e',Q .next [some (.str w),some vs,some (.int low),some (.str (r.foldl (lendF (slice w (some low) none)) f)),e'] s) ->
 WL 4 (wpSs C n endB) (r.map .str) [some (.str w),some vs,some (.int low),some (.str f),e] s Q
 | [],f,e,h=>WL.nil (h e)
 | a :: r,f,e,h=>by
  have ih:=end_loop (n:=n) (vs:=vs) (Q:=Q) r
  refine WL.cons ?_
  refine Br.dec (fun h1=>?_) (fun h1=>?_)
  ·conv=>whnf
   refine Br.mk (fun h2=>?_) (fun h2=>?_)
   ·refine (ih a (some (.str a)) fun e'=>?_).ex
    have e:lendF (slice w (some low) none) f a = a:=by unfold lendF; rw [h2,decide_eq_true (show a.length > f.length by lia)]; rfl
    rw [<- e]; exact h e'
   ·refine (ih f (some (.str a)) fun e'=>?_).ex
    have e:lendF (slice w (some low) none) f a = f:=by unfold lendF; rw [h2,Bool.and_false]; rfl
    have h:=h e'
    rw [List.foldl_cons,e] at h; exact h
  ·conv=>whnf
   refine Br.fa ?_
   refine (ih f (some (.str a)) fun e'=>?_).ex
   have e:lendF (slice w (some low) none) f a = f:=by unfold lendF; rw [decide_eq_false (show ¬ a.length > f.length by lia)]; rfl
   have h:=h e'
   rw [List.foldl_cons,e] at h; exact h
theorem end_W (hC:C.loose = true) (h:Q (.str (endS w ends low)) s):WF (nT C) .end_ [.str w,.list (ends.map .str),.int low] s Q:=by
 refine WF.run rfl rfl ?_
 refine Must.mk hC ?_
 exact end_loop ends [] none fun e'=>h
theorem less_W (hC:C.loose = true) (h:Q (.str (lessS w ends low)) s):WF (nT (nT C)) .less [.str w,.list (ends.map .str),.int low] s Q:=by
 refine WF.run rfl rfl ?_
 refine end_W hC ?_
 refine cut_W ?_
 unfold lessS at h
 refine Br.dec (fun h1=>?_) (fun h1=>?_)
 ·rw [if_pos h1] at h; exact h
 ·rw [if_neg h1] at h; exact h
theorem or_W (hl:(cutS w e ++ o).length <= lim) (h:Q (.str (orS w e low o)) s):WF (nT (nT C)) .or_ [.str w,.str e,.int low,.str o] s Q:=by
 refine WF.run rfl rfl ?_
 refine cut_W ?_
 unfold orS at h
 refine Br.dec (fun h1=>?_) (fun h1=>?_)
 ·rw [if_pos h1] at h; exact h
 ·rw [if_neg h1] at h; exact Cat.ok hl h
noncomputable def runN (p:Nat->Bool):T->Nat
 | []=>0
 | c :: r=>if p c then runN p r + 1 else 0
theorem runN_le (p:Nat->Bool):∀ t:T,runN p t <= t.length
 | []=>Nat.le_refl _
 | c :: r=>by
  unfold runN; split
  ·exact Nat.succ_le_succ (runN_le p r)
  ·exact Nat.zero_le _
theorem runN_at {p:Nat->Bool} {t:T} {k c:Nat} (e:t[k]? = some c):runN p (t.drop k) = if p c then runN p (t.drop (k + 1)) + 1 else 0:=by
 obtain ⟨h,rfl⟩:=List.getElem?_eq_some_iff.mp e
 rw [List.drop_eq_getElem_cons h]; rfl
theorem skip_loop {n:Nat} {b:Bool} {op:CmpOp} {Q:QS} (hop:∀ (c:Nat) (P:Bool->Prop),P (isV c == b)->wCmp op (.str [c]) (.list (gvL.map .str)) P) :
 ∀ (m k:Nat),w.length - k < m->Q .next [some (.str w),some (.int ((k + runN (fun c=>isV c == b) (w.drop k):Nat):Int))] s ->
  WW (wpE (nT C) (.bop .And (es [(.cmp .Lt (.loc 1) (.len (.loc 0))),(.cmp op (.idx (.loc 0) (.loc 1)) (.callF .vowels (es [])))]))) (wpSs (nT C) n (ss [.augL 1 .Add (cI 1)])) m [some (.str w),some (.int (k:Int))] s Q
 | 0,k,h,_=>by lia
 | m + 1,k,hm,h=>by
  have ih:=skip_loop (n:=n) (Q:=Q) hop m (k + 1)
  refine WW.step ?_
  refine Br.dec (fun h1=>?_) (fun h1=>?_)
  ·obtain ⟨c,e⟩:∃ c,w[k]? = some c:=⟨_,List.getElem?_eq_getElem (by lia)⟩
   rw [runN_at e] at h
   refine Idx.of ((pyAt_nat w k).trans e) ?_
   refine vowels_W ?_
   refine hop _ _ ?_
   refine Br.mk (fun h2=>?_) (fun h2=>?_)
   ·rw [if_pos h2] at h
    exact (ih (by lia) (by rw [show k + 1 + runN (fun c=>isV c == b) (w.drop (k + 1)) = k + (runN (fun c=>isV c == b) (w.drop (k + 1)) + 1) by lia]; exact h)).ex
   ·rw [if_neg (by rw [h2]; exact fT)] at h
    exact h
  ·rw [List.drop_eq_nil_of_le (by lia)] at h
   exact Br.fa h
theorem hopV (c:Nat) (P:Bool->Prop) (hP:P (isV c == true)):wCmp .In (.str [c]) (.list (gvL.map .str)) P:=InL.ok gv_strs (by rw [beq_true] at hP; exact hP)
theorem hopN (c:Nat) (P:Bool->Prop) (hP:P (isV c == false)):wCmp .NotIn (.str [c]) (.list (gvL.map .str)) P:=InL.ok gv_strs (by rw [beq_false] at hP; exact hP)
noncomputable def behindS (w:T) (k:Nat):Nat :=
 let a:=k + runN (fun c=>isV c == false) (w.drop k)
 let b:=a + runN (fun c=>isV c == true) (w.drop a)
 min (b + 1) w.length
theorem min_up {a b:Nat}:(if (b:Int) < ((a:Nat):Int) + 1 then (b:Int) else ((a:Nat):Int) + 1) = ((min (a + 1) b:Nat):Int):=by split <;> lia
theorem behind_W {k:Nat} (hC:C.loose = true) (hw:w.length < 900) (h:Q (.int (behindS w k)) s):WF (nT (nT C)) .behind [.str w,.int k] s Q:=by
 refine WF.run rfl rfl ?_
 refine skip_loop hopN (n0 + 1) k (by simp [n0]; lia) ?_
 refine skip_loop hopV (n0 + 1) _ (by simp [n0]; lia) ?_
 refine Must.mk hC ?_
 conv=>whnf
 rw [min_up]
 exact h
noncomputable def firstS (w:T):Nat :=
 if 2 < w.length /\ isV (w.getD 0 0) = true /\ isV (w.getD 1 0) = true then 3
 else if [cps "col",cps "par",cps "tap"].contains (slice w none (some 3)) = true \/ (slice w none (some 2) = cps "ni" /\ gvL.contains (slice w (some 2) (some 3)) = true) then 3
 else min (1 + runN (fun c=>isV c == false) (w.drop 1) + 1) w.length
theorem first_W (hC:C.loose = true) (hw:w.length < 900) (h:Q (.int (firstS w)) s):WF (nT (nT C)) .first [.str w] s Q:=by
 have hA:(2 < w.length /\ isV (w.getD 0 0) = true /\ isV (w.getD 1 0) = true)->firstS w = 3:=fun z=>by unfold firstS; rw [if_pos z]
 have hB:([cps "col",cps "par",cps "tap"].contains (slice w none (some 3)) = true \/ (slice w none (some 2) = cps "ni" /\ gvL.contains (slice w (some 2) (some 3)) = true))->firstS w = 3:=fun z=>by unfold firstS; rw [if_pos z]; split <;> rfl
 have hN:¬ (2 < w.length /\ isV (w.getD 0 0) = true /\ isV (w.getD 1 0) = true)->¬ ([cps "col",cps "par",cps "tap"].contains (slice w none (some 3)) = true \/ (slice w none (some 2) = cps "ni" /\ gvL.contains (slice w (some 2) (some 3)) = true))->firstS w = min (1 + runN (fun c=>isV c == false) (w.drop 1) + 1) w.length:=fun z1 z2=>by unfold firstS; rw [if_neg z1,if_neg z2]
 have hget:∀ k:Nat,k < w.length->pyAt w (k:Int) = some (w.getD k 0):=fun k hk=>by rw [pyAt_nat,List.getElem?_eq_getElem hk]; simp [List.getD,List.getElem?_eq_getElem hk]
 generalize firstS w = f at *
 refine WF.run rfl rfl ?_
 refine Br.dec (fun h1=>?a) (fun h1=>?b1)
 case' a =>
  have h1:2 < w.length:=by lia
  refine Idx.of (hget 0 (by lia)) ?_
  refine vowels_W ?_
  refine InL.ok gv_strs ?_
  refine Br.mk (fun h2=>?a2) (fun h2=>?b2)
 case' a2 =>
  refine Idx.of (hget 1 (by lia)) ?_
  refine vowels_W ?_
  refine InL.ok gv_strs ?_
  refine Br.mk (fun h3=>?a3) (fun h3=>?b3)
 case a3 =>
  rw [hA ⟨h1,h2,h3⟩] at h
  exact h
 case' b1=>have hn:=fun z=>hN (fun q=>h1 (by lia)) z
 case' b2=>have hn:=fun z=>hN (fun q=>by rw [show isV (w.getD 0 0) = false from h2] at q; cases q.2.1) z
 case' b3=>have hn:=fun z=>hN (fun q=>by rw [show isV (w.getD 1 0) = false from h3] at q; cases q.2.2) z
 all_goals clear hA hN hget h1
 case' b2=>clear h2
 case' b3=>clear h2 h3
 case' b1 =>
  refine Br.fa ?_
 case' b2 =>
  refine Br.fa ?_
 all_goals (conv=>whnf)
 all_goals (refine InL.lit rfl ?_)
 all_goals (conv=>whnf)
 all_goals (refine Br.mk (fun h4=>?_) (fun h4=>?_))
 all_goals (conv=>whnf)
 all_goals first
  |(refine Br.tr ?_; rw [hB (.inl h4)] at h; exact h)
  |(refine Br.dec (fun h5=>?_) (fun h5=>?_)
    ·conv=>whnf
     refine vowels_W ?_
     refine InL.ok gv_strs ?_
     refine Br.mk (fun h6=>?_) (fun h6=>?_)
     ·rw [hB (.inr ⟨h5,h6⟩)] at h; exact h
     ·rw [hn (fun z=>z.elim (fun q=>by rw [show [cps "col",cps "par",cps "tap"].contains (slice w none (some 3)) = false from h4] at q; cases q) fun q=>by rw [h6] at q; cases q.2)] at h
      clear hn hB
      refine skip_loop hopN (n0 + 1) 1 (by simp [n0]; lia) ?_
      refine Must.mk hC ?_
      conv=>whnf
      rw [min_up]
      exact h
    ·conv=>whnf
     refine Br.fa ?_
     rw [hn (fun z=>z.elim (fun q=>by rw [show [cps "col",cps "par",cps "tap"].contains (slice w none (some 3)) = false from h4] at q; cases q) fun q=>h5 q.1)] at h
     clear hn hB
     refine skip_loop hopN (n0 + 1) 1 (by simp [n0]; lia) ?_
     refine Must.mk hC ?_
     conv=>whnf
     rw [min_up]
     exact h)
end
noncomputable def outT (A B t0 t1 f1 f2:T) (bt:Bool):Option T :=
 if (gvL.contains A && (bt || decide (B = cps "y"))) = true then some (t1 ++ B.map (· - 32) ++ f2)
 else if A = cps "ë" then some (t0 ++ cps "He" ++ f1)
 else if A = cps "ï" then some (t0 ++ cps "Hi" ++ f1)
 else if A = cps "y" /\ gvL.contains B = true then some (t0 ++ cps "Y" ++ f1)
 else if A = cps "q" /\ B = cps "u" then some (t1 ++ cps "U" ++ f2)
 else none
noncomputable def turn (r:T):Option T:=outT (r.take 1) ((r.drop 1).take 1) [] (r.take 1) (r.drop 1) (r.drop 2) ([cps "u",cps "i"].contains ((r.drop 1).take 1) && gvL.contains ((r.drop 2).take 1))
theorem out_app (p A B t0 t1 f1 f2:T) (bt:Bool):outT A B (p ++ t0) (p ++ t1) f1 f2 bt = (outT A B t0 t1 f1 f2 bt).map (p ++ ·):=by
 unfold outT
 repeat' split
 all_goals simp only [Option.map_some,Option.map_none,List.append_assoc]
noncomputable def turnR (p r:T):T × T:=match turn r with
 | some r'=>(p,r')
 | none=>match r with
  | []=>(p,[])
  | c :: t=>(p ++ [c],t)
noncomputable def mkLast:IS:=.ite (.bop .And (es [(.cmp .In (.loc 4) (.callF .vowels (es []))),(.bop .Or (es [(.loc 7),(.cmp .Eq (.loc 5) (cs "y"))]))])) (ss [.asgn 0 (.bin .Add (.bin .Add (.slc (.loc 0) (.con .none) (.bin .Add (.loc 2) (cI 1))) (.upper (.loc 5))) (.slc (.loc 0) (.bin .Add (.loc 2) (cI 2)) (.con .none)))]) (ss [.ite (.cmp .Eq (.loc 4) (cs "ë")) (ss [.asgn 0 (.bin .Add (.bin .Add (.slc (.loc 0) (.con .none) (.loc 2)) (cs "He")) (.slc (.loc 0) (.bin .Add (.loc 2) (cI 1)) (.con .none)))]) (ss [.ite (.cmp .Eq (.loc 4) (cs "ï")) (ss [.asgn 0 (.bin .Add (.bin .Add (.slc (.loc 0) (.con .none) (.loc 2)) (cs "Hi")) (.slc (.loc 0) (.bin .Add (.loc 2) (cI 1)) (.con .none)))]) (ss [.ite (.bop .And (es [(.cmp .Eq (.loc 4) (cs "y")),(.cmp .In (.loc 5) (.callF .vowels (es [])))])) (ss [.asgn 0 (.bin .Add (.bin .Add (.slc (.loc 0) (.con .none) (.loc 2)) (cs "Y")) (.slc (.loc 0) (.bin .Add (.loc 2) (cI 1)) (.con .none)))]) (ss [.ite (.bop .And (es [(.cmp .Eq (.loc 4) (cs "q")),(.cmp .Eq (.loc 5) (cs "u"))])) (ss [.asgn 0 (.bin .Add (.bin .Add (.slc (.loc 0) (.con .none) (.bin .Add (.loc 2) (cI 1))) (cs "U")) (.slc (.loc 0) (.bin .Add (.loc 2) (cI 2)) (.con .none)))]) (ss [.ite (.cmp .Lt (.loc 2) (.len (.loc 0))) (ss [.augL 2 .Add (cI 1)]) (ss [])])])])])])
noncomputable def mkBody:ISs:=(ss [.asgnTT [4,5,6] (es [(.slc (.loc 0) (.loc 2) (.bin .Add (.loc 2) (cI 1))),(.slc (.loc 0) (.bin .Add (.loc 2) (cI 1)) (.bin .Add (.loc 2) (cI 2))),(.slc (.loc 0) (.bin .Add (.loc 2) (cI 2)) (.bin .Add (.loc 2) (cI 3)))]),.asgn 7 (.bop .And (es [(.cmp .In (.loc 5) (.list (es [(cs "u"),(cs "i")]))),(.cmp .In (.loc 6) (.callF .vowels (es [])))])),mkLast])
section
variable {C:Tbl} {s:Stem} {Q:QS} {n:Nat}
theorem mk_rest {w A B D t0 t1 f1 f2:T} {k:Nat} {many:Int} {bt:Bool} {kk:Option V} (hw:w.length <= 40000) (hB:B.length <= 1) (hu:bt = true->[cps "u",cps "i"].contains B = true)
 (e1:slice w none (some ((k:Int) + 1)) = t1) (e0:slice w none (some (k:Int)) = t0) (g1:slice w (some ((k:Int) + 1)) none = f1) (g2:slice w (some ((k:Int) + 2)) none = f2)
 (h:∀ w',outT A B t0 t1 f1 f2 bt = some w'->Q .next [some (.str w'),some (.int many),some (.int k),kk,some (.str A),some (.str B),some (.str D),some (.bool bt)] s)
 (h0:outT A B t0 t1 f1 f2 bt = none->k < w.length->Q .next [some (.str w),some (.int many),some (.int ((k:Int) + 1)),kk,some (.str A),some (.str B),some (.str D),some (.bool bt)] s)
 (hz:outT A B t0 t1 f1 f2 bt = none->¬ k < w.length->Q .next [some (.str w),some (.int many),some (.int k),kk,some (.str A),some (.str B),some (.str D),some (.bool bt)] s) :
 wpS (nT C) n mkLast [some (.str w),some (.int many),some (.int k),kk,some (.str A),some (.str B),some (.str D),some (.bool bt)] s Q:=by
 have l1:t1.length <= w.length:=by rw [<- e1]; exact slice_le _ _ _
 have l0:t0.length <= w.length:=by rw [<- e0]; exact slice_le _ _ _
 have l2:f1.length <= w.length:=by rw [<- g1]; exact slice_le _ _ _
 have l3:f2.length <= w.length:=by rw [<- g2]; exact slice_le _ _ _
 have hlim:lim = 100000:=rfl
 have hHe:(cps "He").length = 2:=by decide +kernel
 have hHi:(cps "Hi").length = 2:=by decide +kernel
 have hY:(cps "Y").length = 1:=by decide +kernel
 have hU:(cps "U").length = 1:=by decide +kernel
 have c2:∀ {x y z:T} {P:V->Prop},x.length <= w.length->y.length <= 2->P (.str (x ++ y))->Cat x y P:=fun h1 h2 h=>⟨by rw [List.length_append]; lia,h⟩
 have c3:∀ {x y z:T} {P:V->Prop},x.length <= w.length->y.length <= 2->z.length <= w.length->P (.str (x ++ y ++ z))->Cat (x ++ y) z P:=fun h1 h2 h3 h=>⟨by rw [List.length_append,List.length_append]; lia,h⟩
 clear hlim
 unfold outT at h h0 hz
 refine vowels_W ?_
 refine InL.ok gv_strs ?_
 refine Br.mk (fun b1=>?a) (fun b1=>?b)
 case' a =>
  refine Br.mk (fun b2=>?a1) (fun b2=>?a0)
 case' a0 =>
  refine Br.dec (fun b3=>?a2) (fun b3=>?b2)
 case' a1 =>
  have hd:B = cps "u" \/ B = cps "i" \/ B = cps "y":=(by simpa using hu b2:B = cps "u" \/ B = cps "i").elim .inl fun z=>.inr (.inl z)
  rw [if_pos (by rw [b1,b2]; rfl)] at h
  refine Br.tr ?_
 case' a2 =>
  have hd:B = cps "u" \/ B = cps "i" \/ B = cps "y":=.inr (.inr b3)
  rw [if_pos (by rw [b1,decide_eq_true b3,Bool.or_true]; rfl)] at h
 case' b2 =>
  have ho:¬ (gvL.contains A && (bt || decide (B = cps "y"))) = true:=by rw [b2,decide_eq_false b3,Bool.or_false,Bool.and_false]; exact fT
 case' b =>
  have ho:¬ (gvL.contains A && (bt || decide (B = cps "y"))) = true:=by rw [b1,Bool.false_and]; exact fT
  refine Br.fa ?_
 case a1 | a2 =>
  clear h0 hz
  conv=>whnf
  rw [e1]
  refine ⟨?_⟩
  obtain ⟨c,hc,hc2⟩:∃ c,B = [c] /\ (c = 117 \/ c = 105 \/ c = 121):=by
   rcases hd with z | z | z <;> exact ⟨_,z,by decide⟩
  have h:=h _ rfl
  rw [hc] at h ⊢
  refine ⟨c,rfl,hc2,?_⟩
  refine c2 (z:=f2) l1 (by simp) ?_
  conv=>whnf
  rw [g2]
  refine c3 l1 (by simp) l3 ?_
  exact h
 all_goals (rw [if_neg ho] at h h0 hz)
 all_goals (clear ho hu)
 all_goals (conv=>whnf)
 all_goals (refine Br.dec (fun c1=>?_) (fun c1=>?_))
 all_goals first | rw [if_pos c1] at h | rw [if_neg c1] at h h0 hz
 all_goals first
  |(have h:=h _ rfl
    clear h0 hz c1
    conv=>whnf
    rw [e0]
    refine c2 (z:=f1) l0 (by lia) ?_
    conv=>whnf
    rw [g1]
    exact c3 l0 (by lia) l2 h)
  |(conv=>whnf
    refine Br.dec (fun c1=>?_) (fun c1=>?_))
 all_goals first | rw [if_pos c1] at h | rw [if_neg c1] at h h0 hz
 all_goals first
  |(have h:=h _ rfl
    clear h0 hz c1
    conv=>whnf
    rw [e0]
    refine c2 (z:=f1) l0 (by lia) ?_
    conv=>whnf
    rw [g1]
    exact c3 l0 (by lia) l2 h)
  |(conv=>whnf
    refine Br.dec (fun c1=>?_) (fun c1=>?_))
 all_goals first
  |(rw [if_neg (fun z=>c1 z.1)] at h h0 hz
    refine Br.fa ?_)
  |(conv=>whnf
    refine vowels_W ?_
    refine InL.ok gv_strs ?_
    refine Br.mk (fun c4=>?_) (fun c4=>?_))
 all_goals first
  |(rw [if_pos ⟨c1,c4⟩] at h
    have h:=h _ rfl
    clear h0 hz c1
    conv=>whnf
    rw [e0]
    refine c2 (z:=f1) l0 (by lia) ?_
    conv=>whnf
    rw [g1]
    exact c3 l0 (by lia) l2 h)
  |(rw [if_neg (fun z=>by rw [c4] at z; cases z.2)] at h h0 hz)
  | skip
 all_goals clear c1
 all_goals (conv=>whnf)
 all_goals (refine Br.dec (fun c5=>?_) (fun c5=>?_))
 all_goals first
  |(rw [if_neg (fun z=>c5 z.1)] at h0 hz
    clear h
    refine Br.fa ?_)
  |(conv=>whnf
    refine Br.dec (fun c6=>?_) (fun c6=>?_))
 all_goals first
  |(rw [if_pos ⟨c5,c6⟩] at h
    have h:=h _ rfl
    clear h0 hz
    conv=>whnf
    rw [e1]
    refine c2 (z:=f2) l1 (by lia) ?_
    conv=>whnf
    rw [g2]
    exact c3 l1 (by lia) l3 h)
  |(rw [if_neg (fun z=>c6 z.2)] at h0 hz
    clear h)
  | skip
 all_goals (conv=>whnf)
 all_goals (refine Br.dec (fun c7=>?_) (fun c7=>?_))
 all_goals first
  | exact h0 rfl (by lia)
  | exact hz rfl (by lia)
end
theorem adj_nat (n a:Nat):adj n (a:Int) = min a n:=by unfold adj; rw [if_neg (by lia),Int.toNat_natCast]
theorem drop_min (w:T) (a:Nat):w.drop (min a w.length) = w.drop a:=by
 rcases Nat.le_total a w.length with h | h
 ·rw [Nat.min_eq_left h]
 ·rw [Nat.min_eq_right h,List.drop_of_length_le (Nat.le_refl _),List.drop_of_length_le h]
theorem take_min (w:T) (a:Nat):w.take (min a w.length) = w.take a:=by
 rcases Nat.le_total a w.length with h | h
 ·rw [Nat.min_eq_left h]
 ·rw [Nat.min_eq_right h,List.take_of_length_le (Nat.le_refl _),List.take_of_length_le h]
theorem slice_nt (w:T) (a:Nat):slice w (some (a:Int)) none = w.drop a:=by
 unfold slice
 simp only [Option.map_some,Option.getD_some,Option.map_none,Option.getD_none]
 rw [adj_nat,List.take_of_length_le (Nat.le_refl _),drop_min]
theorem slice_tn (w:T) (b:Nat):slice w none (some (b:Int)) = w.take b:=by
 unfold slice
 simp only [Option.map_some,Option.getD_some,Option.map_none,Option.getD_none]
 rw [adj_nat,take_min]; rfl
theorem slice_nn (w:T) (a b:Nat):slice w (some (a:Int)) (some (b:Int)) = (w.take b).drop a:=by
 unfold slice
 simp only [Option.map_some,Option.getD_some]
 rw [adj_nat,adj_nat,take_min]
 rcases Nat.le_total a w.length with h | h
 ·rw [Nat.min_eq_left h]
 ·rw [Nat.min_eq_right h,List.drop_of_length_le (by rw [List.length_take]; lia),List.drop_of_length_le (by rw [List.length_take]; lia)]
noncomputable def marks:Nat->T × T->T × T
 | 0,x=>x
 | n + 1,x=>marks n (turnR x.1 x.2)
section
variable (p r:T)
theorem sl1 (i:Nat):slice (p ++ r) (some ((p.length:Int) + i)) (some ((p.length:Int) + (i + 1:Nat))) = (r.drop i).take 1:=by
 rw [<- Int.natCast_add,<- Int.natCast_add,slice_nn,List.drop_take,List.drop_append,List.drop_of_length_le (by lia),show p.length + i - p.length = i by lia,show p.length + (i + 1) - (p.length + i) = 1 by lia]; rfl
theorem sl_to (i:Nat):slice (p ++ r) none (some ((p.length:Int) + i)) = p ++ r.take i:=by
 rw [<- Int.natCast_add,slice_tn,List.take_append,List.take_of_length_le (by lia),show p.length + i - p.length = i by lia]
theorem sl_from (i:Nat):slice (p ++ r) (some ((p.length:Int) + i)) none = r.drop i:=by
 rw [<- Int.natCast_add,slice_nt,List.drop_append,List.drop_of_length_le (by lia),show p.length + i - p.length = i by lia]; rfl
end
section
variable {C:Tbl} {s:Stem} {Q:QS} {n:Nat}
theorem turn_W {p r:T} {many:Int} {kk a b c d:Option V} (hl:(p ++ r).length <= 40000)
 (h:∀ a b c d,Q .next [some (.str ((turnR p r).1 ++ (turnR p r).2)),some (.int many),some (.int ((turnR p r).1.length:Nat)),kk,a,b,c,d] s) :
 wpSs (nT C) n mkBody [some (.str (p ++ r)),some (.int many),some (.int (p.length:Nat)),kk,a,b,c,d] s Q:=by
 have s1:=sl1 p r 0
 have s2:=sl1 p r 1
 have s3:=sl1 p r 2
 have t0:=sl_to p r 0
 have t1:=sl_to p r 1
 have f1:=sl_from p r 1
 have f2:=sl_from p r 2
 simp only [Int.natCast_zero,Int.add_zero,List.drop_zero,List.take_zero,Nat.zero_add,Int.natCast_one,Int.cast_ofNat_Int,Nat.reduceAdd] at s1 s2 s3 t0 t1 f1 f2
 have main:∀ bt:Bool,bt = ([cps "u",cps "i"].contains ((r.drop 1).take 1) && gvL.contains ((r.drop 2).take 1))->wpS (nT C) n mkLast [some (.str (p ++ r)),some (.int many),some (.int (p.length:Nat)),kk,some (.str (r.take 1)),some (.str ((r.drop 1).take 1)),some (.str ((r.drop 2).take 1)),some (.bool bt)] s (seqK (wpSs (nT C) n (ss [])) Q):=fun bt hbt=>by
  have hu:bt = true->[cps "u",cps "i"].contains ((r.drop 1).take 1) = true:=fun z=>by rw [hbt,Bool.and_eq_true] at z; exact z.1
  have ho:=out_app p (r.take 1) ((r.drop 1).take 1) [] (r.take 1) (r.drop 1) (r.drop 2) bt
  have ht:outT (r.take 1) ((r.drop 1).take 1) [] (r.take 1) (r.drop 1) (r.drop 2) bt = turn r:=by rw [hbt]; rfl
  rw [ht] at ho
  have hn:turn r = none->r ≠ []->∃ x y,r = x :: y /\ turnR p r = (p ++ [x],y):=fun e z=>by
   cases r with
   | nil=>exact (z rfl).elim
   | cons x y=>exact ⟨x,y,rfl,by unfold turnR; rw [e]⟩
  refine mk_rest hl (by rw [List.length_take]; lia) hu t1 t0 f1 f2 (fun w' e=>?_) (fun e hk=>?_) (fun e hk=>?_)
  ·rw [ho] at e
   obtain ⟨r',e1,rfl⟩:=Option.map_eq_some_iff.mp e
   have:turnR p r = (p,r'):=by unfold turnR; rw [e1]
   rw [this] at h
   exact h _ _ _ _
  ·rw [ho] at e
   obtain ⟨x,y,rfl,e2⟩:=hn (Option.map_eq_none_iff.mp e) fun z=>by rw [z,List.append_nil] at hk; lia
   rw [e2] at h
   have h:=h
   simp only [List.append_assoc,List.singleton_append,List.length_append,List.length_singleton] at h
   exact h _ _ _ _
  ·rw [ho] at e
   have hr:r = []:=List.length_eq_zero_iff.mp (by rw [List.length_append] at hk; lia)
   subst hr
   have:turnR p [] = (p,[]):=by unfold turnR; rw [Option.map_eq_none_iff.mp e]
   rw [this] at h
   exact h _ _ _ _
 conv=>whnf
 rw [s1,s2,s3]
 refine InL.lit rfl ?_
 refine Br.mk (fun b1=>?_) (fun b1=>?_)
 ·conv=>whnf
  refine vowels_W ?_
  refine InL.ok gv_strs ?_
  exact main _ (by rw [show [cps "u",cps "i"].contains ((r.drop 1).take 1) = true from b1]; rfl)
 ·exact main false (by rw [show [cps "u",cps "i"].contains ((r.drop 1).take 1) = false from b1]; rfl)
theorem turn_len {r r':T} (h:turn r = some r'):r'.length <= r.length + 1:=by
 have hHe:(cps "He").length = 2:=by decide +kernel
 have hHi:(cps "Hi").length = 2:=by decide +kernel
 have hY:(cps "Y").length = 1:=by decide +kernel
 have hU:(cps "U").length = 1:=by decide +kernel
 have ne:∀ {x:String},r.take 1 = cps x->cps x ≠ []->0 < r.length:=fun e z=>by cases r; exact (z e.symm).elim; simp
 unfold turn outT at h
 repeat' split at h
 all_goals first | (cases h; done) | skip
 all_goals (injection h with h; subst h)
 ·simp; omega
 ·rename_i q; have:=ne q (by decide +kernel); simp; lia
 ·rename_i q; have:=ne q (by decide +kernel); simp; lia
 ·rename_i q; simp; lia
 ·rename_i q; have:=ne q.1 (by decide +kernel); simp; lia
theorem turnR_len (p r:T):((turnR p r).1 ++ (turnR p r).2).length <= (p ++ r).length + 1:=by
 unfold turnR
 split
 ·rename_i r' e; have:=turn_len e; simp only [List.length_append]; lia
 ·split
  ·exact Nat.le_succ _
  ·rw [List.append_assoc]; exact Nat.le_succ _
theorem marks_len:∀ (n:Nat) (x:T × T),((marks n x).1 ++ (marks n x).2).length <= (x.1 ++ x.2).length + n
 | 0,x=>Nat.le_refl _
 | n + 1,x=>by
  have h1:=marks_len n (turnR x.1 x.2)
  have h2:=turnR_len x.1 x.2
  show ((marks n (turnR x.1 x.2)).1 ++ (marks n (turnR x.1 x.2)).2).length <= _
  lia
theorem marks_loop {many:Int}:∀ (vs:List V) (p r:T) (k a b c d:Option V),(p ++ r).length + vs.length <= 40000 ->
 (∀ k a b c d,Q .next [some (.str ((marks vs.length (p,r)).1 ++ (marks vs.length (p,r)).2)),some (.int many),some (.int ((marks vs.length (p,r)).1.length:Nat)),k,a,b,c,d] s) ->
 WL 3 (wpSs (nT C) n mkBody) vs [some (.str (p ++ r)),some (.int many),some (.int (p.length:Nat)),k,a,b,c,d] s Q
 | [],p,r,k,a,b,c,d,hl,h=>WL.nil (h k a b c d)
 | v :: vs,p,r,k,a,b,c,d,hl,h=>by
  have:=turnR_len p r
  rw [List.length_cons] at hl
  exact WL.cons (turn_W (by lia) fun a b c d=>(marks_loop vs (turnR p r).1 (turnR p r).2 _ a b c d (by lia) h).ex)
noncomputable def manyS (w:T):Nat:=if slice w none (some 2) = cps "qu" then 2 else 1
noncomputable def elideB (w:T):Bool:=(decide ((manyS w:Int) = 2) || eliL.contains (slice w none (some 1))) && (decide (slice w (some (manyS w:Int)) (some ((manyS w:Int) + 1)) = cps "'") && decide ((w.length:Int) > (manyS w:Int) + 1))
noncomputable def elideS (w:T):T:=if elideB w = true then slice w (some ((manyS w:Int) + 1)) none else w
noncomputable def markedS (w:T):T:=(marks (4 * (elideS w).length + 4) ([],elideS w)).1 ++ (marks (4 * (elideS w).length + 4) ([],elideS w)).2
theorem elide_len (w:T):(elideS w).length <= w.length:=by
 unfold elideS; split
 ·exact slice_le _ _ _
 ·exact Nat.le_refl _
theorem marked_len (w:T):(markedS w).length <= 5 * w.length + 4:=by
 have h1:=marks_len (4 * (elideS w).length + 4) ([],elideS w)
 have h2:=elide_len w
 unfold markedS
 have h3:(([],elideS w):T × T).1 ++ (([],elideS w):T × T).2 = elideS w:=rfl
 rw [h3] at h1
 lia
theorem range_len (b:Nat):(rangeV 0 (b:Int) 1).length = b:=by unfold rangeV; rw [if_pos rfl,List.length_map,List.length_range,Int.sub_zero,Int.toNat_natCast]
theorem marks_all {w' w:T} {many:Int} {Q:QE} (hC:C.loose = true) (e:w' = elideS w) (hw:w.length < 900) (h:Q (.str (markedS w)) s) :
 seqK (wpSs (nT C) n (ss [.asgn 2 (cI 0),.forR 3 (cI 0) (.bin .Add (.bin .Mult (cI 4) (.len (.loc 0))) (cI 4)) (cI 1) mkBody,.ret (.loc 0)])) (runK Q) .next [some (.str w'),some (.int many),none,none,none,none,none,none] s:=by
 have hl:=elide_len w
 rw [<- e] at hl
 have e4:4 * (w'.length:Int) + 4 = ((4 * w'.length + 4:Nat):Int):=by lia
 refine Must.mk (by rw [small_of (n:=4) (by lia) (by lia),small_of (by lia) (by lia)]; rfl) ?_
 refine Must.mk (by rw [show (nT C).loose = true from hC,small_of (n:=0) (by lia) (by lia),small_of (by lia) (by lia)]; rfl) ?_
 rw [e4]
 have hrl:=range_len (4 * w'.length + 4)
 refine (show WL 3 (wpSs (nT C) n mkBody) _ [some (.str ([] ++ w')),some (.int many),some (.int (([]:T).length:Nat)),none,none,none,none,none] s _ from marks_loop _ [] w' _ _ _ _ _ (by rw [hrl,List.nil_append]; lia) fun k a b c d=>?_)
 rw [hrl,e]
 exact h
end
section
variable {C:Tbl} {s:Stem} {Q:QE}
theorem marked_W (hC:C.loose = true) {w:T} (hw:w.length < 900) (h:Q (.str (markedS w)) s):WF (nT (nT C)) .marked [.str w] s Q:=by
 have no:∀ m:Int,(manyS w:Int) = m->((decide (m = 2) || eliL.contains (slice w none (some 1))) && (decide (slice w (some m) (some (m + 1)) = cps "'") && decide ((w.length:Int) > m + 1))) = false->w = elideS w:=fun m e z=>by
  unfold elideS elideB; rw [e,z]; rfl
 have yes:∀ m:Int,(manyS w:Int) = m->((decide (m = 2) || eliL.contains (slice w none (some 1))) && (decide (slice w (some m) (some (m + 1)) = cps "'") && decide ((w.length:Int) > m + 1))) = true->slice w (some (m + 1)) none = elideS w:=fun m e z=>by
  unfold elideS elideB; rw [e,z]; rfl
 have m2:slice w none (some 2) = cps "qu"->(manyS w:Int) = 2:=fun z=>by unfold manyS; rw [if_pos z]; rfl
 have m1:¬ slice w none (some 2) = cps "qu"->(manyS w:Int) = 1:=fun z=>by unfold manyS; rw [if_neg z]; rfl
 refine WF.run rfl rfl ?_
 refine Br.dec (fun h1=>?a) (fun h1=>?b)
 case' a =>
  have no:=no 2 (m2 h1)
  have yes:=yes 2 (m2 h1)
  refine Br.yes rfl ?_
  refine Br.tr ?_
 case' b =>
  have no:=no 1 (m1 h1)
  have yes:=yes 1 (m1 h1)
  refine Br.no (by decide) ?_
  refine InL.lit rfl ?_
  refine Br.mk (fun h2=>?b1) (fun h2=>?b0)
 case' b0 =>
  have no:=no (by rw [show eliL.contains (slice w none (some 1)) = false from h2]; rfl)
  clear yes
  refine Br.fa ?_
 case b0=>exact marks_all hC no hw h
 case' a=>have ho:(decide ((2:Int) = 2) || eliL.contains (slice w none (some 1))) = true:=rfl
 case' b1=>have ho:(decide ((1:Int) = 2) || eliL.contains (slice w none (some 1))) = true:=by rw [show eliL.contains (slice w none (some 1)) = true from h2]; rfl
 all_goals (rw [ho,Bool.true_and] at no yes)
 all_goals clear ho m1 m2
 all_goals (conv=>whnf)
 all_goals (refine Br.dec (fun h3=>?_) (fun h3=>?_))
 all_goals first
  |(conv=>whnf
    refine Br.dec (fun h4=>?_) (fun h4=>?_)
    ·exact marks_all hC (yes (by rw [decide_eq_true h4,decide_eq_true h3]; rfl)) hw h
    ·exact marks_all hC (no (by rw [decide_eq_false h4,Bool.and_false])) hw h)
  |(conv=>whnf
    refine Br.fa ?_
    exact marks_all hC (no (by rw [decide_eq_false h3]; rfl)) hw h)
end
noncomputable def lastS (w:T):T:=slice w (some (-1)) none
theorem lastS_cons (p:T) (c:Nat):lastS (p ++ [c]) = [c]:=by
 have e:adj (p ++ [c]).length (-1) = p.length:=by unfold adj; rw [if_pos (by decide),List.length_append,List.length_singleton]; lia
 unfold lastS slice
 simp only [Option.map_some,Option.getD_some,Option.map_none,Option.getD_none]
 rw [e,List.take_of_length_le (Nat.le_refl _),List.drop_left' rfl]
theorem snoc (w:T) (h:w ≠ []):∃ p c,w = p ++ [c]:=⟨w.dropLast,w.getLast h,(List.dropLast_concat_getLast h).symm⟩
theorem at_neg (p:T) (c:Nat):pyAt (p ++ [c]) (-1) = some c:=by
 unfold pyAt
 rw [if_pos (by decide),List.length_append,List.length_singleton,if_pos (by lia),show (-1 + ((p.length + 1:Nat):Int)).toNat = p.length by lia]; simp
theorem last_ok {w:T} {P:V->Prop} (h:w ≠ []) (k:P (.str (lastS w))):Idx (pyAt w (-1)) fun c=>P (.str [c]):=by
 obtain ⟨p,c,rfl⟩:=snoc w h
 exact ⟨c,at_neg p c,by rw [lastS_cons] at k; exact k⟩
theorem last_ok2 {w:T} {P:V->Prop} (h:¬ w = cps "") (k:P (.str (lastS w))):Idx (pyAt w (-1)) fun c=>P (.str [c]):=last_ok h k
theorem last_ok3 {w:T} {P:V->Prop} (h:0 < w.length) (k:P (.str (lastS w))):Idx (pyAt w (-1)) fun c=>P (.str [c]):=last_ok (fun e=>by rw [e] at h; exact Nat.lt_irrefl _ h) k
noncomputable def kindB (ks:List T) (vs:List V) (l:List (T × Int)) (f:Int->Bool):Bool:=l.all fun p=>match dictGet ks vs p.1 with
 | some (.int k)=>decide (k = p.2) && f k
 | _=>false
noncomputable def kindOf (ks:List T) (vs:List V) (e:T):Int:=match dictGet ks vs e with
 | some (.int k)=>k
 | _=>0
theorem kind_of {ks:List T} {vs:List V} {l:List (T × Int)} {f:Int->Bool} (h:kindB ks vs l f = true) (e:T) (he:e ∈ l.map (·.1)):dictGet ks vs e = some (.int (kindOf ks vs e)) /\ f (kindOf ks vs e) = true:=by
 obtain ⟨p,hp,rfl⟩:=List.mem_map.mp he
 have:=List.all_eq_true.mp h p hp
 unfold kindOf
 cases e:dictGet ks vs p.1 with
 | none=>rw [e] at this; cases this
 | some v =>
  rw [e] at this
  cases v <;> first | exact ⟨rfl,((Bool.and_eq_true _ _).mp this).2⟩ | cases this
theorem len10:(cps "ant").length <= 10 /\ (cps "ent").length <= 10 /\ (cps "eau").length <= 10 /\ (cps "al").length <= 10 /\ (cps "ou").length <= 10 /\ (cps "eux").length <= 10 /\ (cps "log").length <= 10 /\ (cps "u").length <= 10 /\ (cps "iqU").length <= 10 /\ (cps "abl").length <= 10 /\ (cps "").length <= 10 /\ (cps "i").length <= 10 /\ (cps "c").length <= 10 /\ (cps "e").length <= 10:=by decide +kernel
theorem Br.by {p:Prop} [Decidable p] {α:Type} {F:α->Prop} {x y:α} {A B:Prop} (h:F (if p then x else y)) (h1:p->F x->A) (h2:¬ p->F y->B):Br (decide p) A B :=
 Br.dec (fun c=>h1 c (by rw [if_pos c] at h; exact h)) (fun c=>h2 c (by rw [if_neg c] at h; exact h))
theorem Br.byB {b:Bool} {α:Type} {F:α->Prop} {x y:α} {A B:Prop} (h:F (if b = true then x else y)) (h1:b = true->F x->A) (h2:b = false->F y->B):Br b A B :=
 ⟨fun c=>h1 c (by rw [if_pos c] at h; exact h),fun c=>h2 c (by rw [if_neg (by rw [c]; exact fT)] at h; exact h)⟩
noncomputable def moreL:List T:=[cps "iqU",cps "abl",cps "Ièr",cps "ièr",cps "eus",cps "iv"]
noncomputable def adverbG (more less head:T) (first one two:Int):T :=
 if more = cps "iv" /\ (less.length:Int) >= two then lessS less [cps "at"] two
 else if more = cps "eus" then (if (less.length:Int) >= two then less else if (less.length:Int) >= one then less ++ cps "eux" else head)
 else if [cps "Ièr",cps "ièr"].contains more = true then (if (less.length:Int) >= first then less ++ cps "i" else head)
 else if (less.length:Int) >= two then less else head
noncomputable def adverbS (head:T) (first one two:Int):T:=adverbG (endS head moreL 0) (cutS head (endS head moreL 0)) head first one two
section
variable {C:Tbl} {s:Stem} {Q:QE}
theorem less_L {w:T} {vs:List V} {low:Int} (hC:C.loose = true) (e:vs = (strsD vs).map .str) (h:Q (.str (lessS w (strsD vs) low)) s):WF (nT (nT C)) .less [.str w,.list vs,.int low] s Q:=by
 rw [e]; exact less_W hC h
theorem or_L {w e o:T} {low:Int} (hw:w.length <= 90000) (ho:o.length <= 10) (h:Q (.str (orS w e low o)) s):WF (nT (nT C)) .or_ [.str w,.str e,.int low,.str o] s Q :=
 or_W (by have:=cut_len w e; have:lim = 100000:=rfl; rw [List.length_append]; lia) h
theorem adverb_W {head:T} {first one two:Int} (hC:C.loose = true) (hl:head.length <= 90000) (h:Q (.str (adverbS head first one two)) s):WF (nT (nT (nT C))) .adverb [.str head,.int first,.int one,.int two] s Q:=by
 obtain ⟨g1,g2,g3,g4,g5,g6,g7,g8,g9,g10,g11,g12,g13,g14⟩:=len10
 clear g1 g2 g3 g4 g5 g7 g8 g9 g10 g11 g13 g14
 unfold adverbS at h
 refine WF.run rfl rfl ?_
 refine end_W (C:=nT C) (ends:=moreL) hC ?_
 generalize endS head moreL 0 = more at *
 refine cut_W ?_
 have hcl:=cut_len head more
 generalize cutS head more = less at *
 have hL:less.length <= 90000:=Nat.le_trans hcl hl
 clear hcl
 have c10:∀ {y:T} {P:V->Prop},y.length <= 10->P (.str (less ++ y))->Cat less y P:=fun h1 h2=>Cat.of hL h1 h2
 unfold adverbG at h
 generalize he:(if more = cps "eus" then (if (less.length:Int) >= two then less else if (less.length:Int) >= one then less ++ cps "eux" else head)
  else if [cps "Ièr",cps "ièr"].contains more = true then (if (less.length:Int) >= first then less ++ cps "i" else head)
  else if (less.length:Int) >= two then less else head) = x at h
 refine Br.dec (fun h1=>?a) (fun h1=>?b)
 case' a =>
  refine Br.dec (fun h2=>?a1) (fun h2=>?b1)
 case a1 =>
  rw [if_pos ⟨h1,h2⟩] at h
  exact less_L hC rfl h
 case' b1=>rw [if_neg fun z=>h2 z.2] at h
 case' b =>
  rw [if_neg fun z=>h1 z.1] at h
  refine Br.fa ?_
 all_goals (rw [<- he] at h)
 all_goals clear h1
 all_goals (conv=>whnf)
 all_goals (refine Br.by (F:=fun z=>Q (.str z) s) h (fun c1 h=>?_) (fun c1 h=>?_))
 all_goals (conv=>whnf)
 all_goals first
  |(refine Br.by (F:=fun z=>Q (.str z) s) h (fun c1 h=>h) (fun c1 h=>?_)
    refine Br.by (F:=fun z=>Q (.str z) s) h (fun c1 h=>?_) (fun c1 h=>h)
    exact c10 g6 h)
  |(refine InL.lit rfl ?_
    refine Br.byB (F:=fun z=>Q (.str z) s) h (fun c1 h=>?_) (fun c1 h=>?_)
    ·conv=>whnf
     refine Br.by (F:=fun z=>Q (.str z) s) h (fun c1 h=>?_) (fun c1 h=>h)
     exact c10 g12 h
    ·conv=>whnf
     exact Br.by (F:=fun z=>Q (.str z) s) h (fun c1 h=>h) (fun c1 h=>h))
end
noncomputable def nounsK:List T:=nounsL.map (·.1)
noncomputable def nounsI:List V:=nounsL.map fun p=>.int p.2
noncomputable def nounK (e:T):Int:=kindOf nounsK nounsI e
theorem nouns_ok:kindB nounsK nounsI nounsL (fun k=>decide (1 <= k) && decide (k <= 16)) = true:=by decide +kernel
theorem noun_get {e:T} {P:V->Prop} (h:e ∈ nounsK) (p:P (.int (nounK e))):Idx (dictGet nounsK nounsI e) P:=⟨_,(kind_of nouns_ok e h).1,p⟩
noncomputable def abilL:List T:=[cps "ic",cps "abil",cps "iv"]
noncomputable def abilO (e:T):T:=if e = cps "ic" then cps "iqU" else if e = cps "abil" then cps "abl" else []
theorem abil_ok {e:T} {P:V->Prop} (h:e = [] \/ e ∈ abilL) (h2:¬ e = cps "iv") (p:P (.str (abilO e))):Idx (dictGet [cps "",cps "ic",cps "abil"] [.str (cps ""),.str (cps "iqU"),.str (cps "abl")] e) P:=by
 simp only [abilL,List.mem_cons,List.not_mem_nil,or_false] at h
 rcases h with rfl | rfl | rfl | rfl
 ·exact ⟨_,by rfl,p⟩
 ·exact ⟨_,by rfl,p⟩
 ·exact ⟨_,by rfl,p⟩
 ·exact (h2 rfl).elim
theorem abilO_len (e:T):(abilO e).length <= 10:=by
 unfold abilO; split
 ·decide +kernel
 ·split
  ·decide +kernel
  ·exact Nat.zero_le _
noncomputable def abilS (head:T) (two:Int):T:=if endS head abilL 0 = cps "iv" then lessS head [cps "iv"] two else orS head (endS head abilL 0) two (abilO (endS head abilL 0))
noncomputable def icS (head:T) (two:Int):T:=if slice head (some (-2)) none = cps "ic" then orS head (cps "ic") two (cps "iqU") else head
noncomputable def ifS (head:T) (two:Int):T:=if lessS head [cps "at"] two = head then head else icS (lessS head [cps "at"] two) two
noncomputable def ng15 (k:Int) (w head e:T) (first one two:Int):T × Bool:=if k = 2 then (icS head two,true) else (head,true)
noncomputable def ng14 (k:Int) (w head e:T) (first one two:Int):T × Bool:=if k = 8 then (ifS head two,true) else ng15 k w head e first one two
noncomputable def ng13 (k:Int) (w head e:T) (first one two:Int):T × Bool:=if k = 7 then (abilS head two,true) else ng14 k w head e first one two
noncomputable def ng12 (k:Int) (w head e:T) (first one two:Int):T × Bool:=if k = 5 then (head ++ cps "ent",true) else ng13 k w head e first one two
noncomputable def ng11 (k:Int) (w head e:T) (first one two:Int):T × Bool:=if k = 4 then (head ++ cps "u",true) else ng12 k w head e first one two
noncomputable def ng10 (k:Int) (w head e:T) (first one two:Int):T × Bool:=if k = 3 then (head ++ cps "log",true) else ng11 k w head e first one two
noncomputable def ng9 (k:Int) (w head e:T) (first one two:Int):T × Bool:=if (head.length:Int) < two then (w,false) else ng10 k w head e first one two
noncomputable def ng8 (k:Int) (w head e:T) (first one two:Int):T × Bool:=if k = 6 then (if (head.length:Int) < first then (w,false) else (adverbS head first one two,true)) else ng9 k w head e first one two
noncomputable def ng7 (k:Int) (w head e:T) (first one two:Int):T × Bool:=if k = 13 then (if (head.length:Int) < one then (w,false) else if head = cps "" then (w,false) else if gvL.contains (lastS head) = true then (w,false) else (head,true)) else ng8 k w head e first one two
noncomputable def ng6 (k:Int) (w head e:T) (first one two:Int):T × Bool:=if k = 12 then (if (head.length:Int) < one then (w,false) else (orS w e two (cps "eux"),true)) else ng7 k w head e first one two
noncomputable def ng5 (k:Int) (w head e:T) (first one two:Int):T × Bool:=if k = 11 then (if ouxL.contains (slice head (some (-1)) none) = true then (head ++ cps "ou",true) else (w,false)) else ng6 k w head e first one two
noncomputable def ng4 (k:Int) (w head e:T) (first one two:Int):T × Bool:=if k = 10 then (if (head.length:Int) < one then (w,false) else (head ++ cps "al",true)) else ng5 k w head e first one two
noncomputable def ng3 (k:Int) (w head e:T) (first one two:Int):T × Bool:=if k = 9 then (head ++ cps "eau",true) else ng4 k w head e first one two
noncomputable def ng2 (k:Int) (w head e:T) (first one two:Int):T × Bool:=if k = 16 then (if gvL.contains (slice head (some (-1)) none) = true then (if (head.length:Int) > first then head else w) else w,false) else ng3 k w head e first one two
noncomputable def ng1 (k:Int) (w head e:T) (first one two:Int):T × Bool:=if k = 15 then (if (head.length:Int) < first then w else head ++ cps "ent",false) else ng2 k w head e first one two
noncomputable def nounG (k:Int) (w head e:T) (first one two:Int):T × Bool:=if k = 14 then (if (head.length:Int) < first then w else head ++ cps "ant",false) else ng1 k w head e first one two
noncomputable def nounS (w:T) (first one two:Int):T × Bool :=
 if endS w nounsK 0 = cps "" then (w,false) else nounG (nounK (endS w nounsK 0)) w (cutS w (endS w nounsK 0)) (endS w nounsK 0) first one two
section
variable {C:Tbl} {s:Stem} {Q:QE}
theorem noun_W (hC:C.loose = true) {w:T} {first one two:Int} (hl:w.length <= 80000) (h:Q (.tup [.str (nounS w first one two).1,.bool (nounS w first one two).2]) s) :
 WF (nT (nT (nT (nT C)))) .noun [.str w,.int first,.int one,.int two] s Q:=by
 obtain ⟨g1,g2,g3,g4,g5,g6,g7,g8,g9,g10,g11,g12,g13,g14⟩:=len10
 clear g10 g11 g12 g13 g14
 unfold nounS at h
 have hm:=@endS_mem w nounsK 0
 refine WF.run rfl rfl ?_
 refine nouns_W ?_
 refine Must.mk hC ?_
 refine end_W (C:=nT (nT C)) (ends:=nounsK) hC ?_
 generalize endS w nounsK 0 = e at *
 refine cut_W ?_
 have hL:(cutS w e).length <= 90000:=by have:=cut_len w e; lia
 have hW:w.length <= 90000:=by lia
 clear hl
 generalize cutS w e = head at *
 have c10:∀ {y:T} {P:V->Prop},y.length <= 10->P (.str (head ++ y))->Cat head y P:=fun h1 h2=>Cat.of hL h1 h2
 generalize hG:(fun z:T × Bool=>Q (.tup [.str z.1,.bool z.2]) s) = G
 have hQ:∀ {x:T} {b:Bool},G (x,b)->Q (.tup [.str x,.bool b]) s:=fun z=>by rw [<- hG] at z; exact z
 have h:G (if e = cps "" then (w,false) else nounG (nounK e) w head e first one two):=by rw [<- hG]; exact h
 clear hG
 refine Br.by h (fun he h=>hQ h) (fun he h=>?_)
 have hm:e ∈ nounsK:=hm.resolve_left he
 refine nouns_W ?_
 refine noun_get hm ?_
 generalize nounK e = k at *
 clear hm he
 unfold nounG at h
 refine Br.by h (fun c14 h=>?_) (fun c14 h=>?_)
 ·conv=>whnf
  refine Br.tr ?_
  refine Br.by (F:=fun z=>G (z,false)) h (fun c h=>hQ h) (fun c h=>?_)
  refine Idx.of (v:=.str (cps "ant")) (by rw [c14]; rfl) ?_
  exact c10 g1 (hQ h)
 unfold ng1 at h
 refine Br.by h (fun c15 h=>?_) (fun c15 h=>?_)
 ·conv=>whnf
  refine Br.by (F:=fun z=>G (z,false)) h (fun c h=>hQ h) (fun c h=>?_)
  refine Idx.of (v:=.str (cps "ent")) (by rw [c15]; rfl) ?_
  exact c10 g2 (hQ h)
 unfold ng2 at h
 refine Br.by h (fun c h=>?_) (fun c16 h=>?_)
 ·conv=>whnf
  refine vowels_W ?_
  refine InL.ok gv_strs ?_
  refine Br.byB (F:=fun z=>G (z,false)) h (fun c h=>?_) (fun c h=>?_)
  ·conv=>whnf
   exact Br.by (F:=fun z=>G (z,false)) h (fun c h=>hQ h) (fun c h=>hQ h)
  ·conv=>whnf
   refine Br.fa ?_
   exact hQ h
 unfold ng3 at h
 refine Br.by h (fun c h=>?_) (fun c9 h=>?_)
 ·conv=>whnf
  exact c10 g3 (hQ h)
 unfold ng4 at h
 refine Br.by h (fun c h=>?_) (fun c10' h=>?_)
 ·conv=>whnf
  refine Br.by h (fun c h=>hQ h) (fun c h=>?_)
  exact c10 g4 (hQ h)
 unfold ng5 at h
 refine Br.by h (fun c h=>?_) (fun c11 h=>?_)
 ·conv=>whnf
  refine InL.lit rfl ?_
  refine Br.byB h (fun c h=>?_) (fun c h=>hQ h)
  exact c10 g5 (hQ h)
 unfold ng6 at h
 refine Br.by h (fun c h=>?_) (fun c12 h=>?_)
 ·conv=>whnf
  refine Br.by h (fun c h=>hQ h) (fun c h=>?_)
  exact or_L hW g6 (hQ h)
 unfold ng7 at h
 refine Br.by h (fun c h=>?_) (fun c13 h=>?_)
 ·conv=>whnf
  refine Br.by h (fun c h=>?_) (fun c h=>?_)
  ·conv=>whnf
   refine Br.tr ?_
   exact hQ h
  ·conv=>whnf
   refine Br.by h (fun c h=>?_) (fun c h=>?_)
   ·conv=>whnf
    refine Br.tr ?_
    exact hQ h
   ·conv=>whnf
    refine last_ok2 c ?_
    refine vowels_W ?_
    refine InL.ok gv_strs ?_
    exact Br.byB h (fun c h=>hQ h) (fun c h=>hQ h)
 unfold ng8 at h
 refine Br.by h (fun c h=>?_) (fun c6 h=>?_)
 ·conv=>whnf
  refine Br.by h (fun c h=>hQ h) (fun c h=>?_)
  exact adverb_W hC hL (hQ h)
 unfold ng9 at h
 refine Br.by h (fun c h=>hQ h) (fun ct h=>?_)
 unfold ng10 at h
 refine Br.by h (fun c3 h=>?_) (fun c3 h=>?_)
 ·conv=>whnf
  refine Br.tr ?_
  refine Idx.of (v:=.str (cps "log")) (by rw [c3]; rfl) ?_
  exact c10 g7 (hQ h)
 unfold ng11 at h
 refine Br.by h (fun c4 h=>?_) (fun c4 h=>?_)
 ·conv=>whnf
  refine Br.tr ?_
  refine Idx.of (v:=.str (cps "u")) (by rw [c4]; rfl) ?_
  exact c10 g8 (hQ h)
 unfold ng12 at h
 refine Br.by h (fun c5 h=>?_) (fun c5 h=>?_)
 ·conv=>whnf
  refine Idx.of (v:=.str (cps "ent")) (by rw [c5]; rfl) ?_
  exact c10 g2 (hQ h)
 clear c14 c15 c16 c9 c10' c11 c12 c13 c6 ct c3 c4 c5
 unfold ng13 at h
 refine Br.by h (fun c7 h=>?_) (fun c7 h=>?_)
 ·clear c7
  unfold abilS at h
  have hm:=@endS_mem head abilL 0
  refine end_W (C:=nT (nT C)) (ends:=abilL) hC ?_
  generalize endS head abilL 0 = e2 at *
  refine Br.by (F:=fun z=>G (z,true)) h (fun c h=>?_) (fun c h=>?_)
  ·conv=>whnf
   exact less_L (C:=nT C) hC rfl (hQ h)
  ·conv=>whnf
   refine Must.mk rfl ?_
   refine abil_ok hm c ?_
   exact or_L hL (abilO_len _) (hQ h)
 unfold ng14 at h
 refine Br.by h (fun c8 h=>?_) (fun c8 h=>?_)
 ·unfold ifS icS at h
  have hls:=less_len head [cps "at"] two
  refine less_L (C:=nT C) hC rfl ?_
  have hl2:(lessS head (strsD [V.str (cps "at")]) two).length <= 90000:=Nat.le_trans hls hL
  have h:G (if lessS head (strsD [V.str (cps "at")]) two = head then head else if slice (lessS head (strsD [V.str (cps "at")]) two) (some (-2)) none = cps "ic" then orS (lessS head (strsD [V.str (cps "at")]) two) (cps "ic") two (cps "iqU") else (lessS head (strsD [V.str (cps "at")]) two),true):=h
  clear hls
  generalize lessS head (strsD [V.str (cps "at")]) two = l at *
  refine Br.by (F:=fun z=>G (z,true)) h (fun c h=>hQ h) (fun c h=>?_)
  refine Br.no (by lia) ?_
  refine Br.yes c8 ?_
  refine Br.by (F:=fun z=>G (z,true)) h (fun c h=>?_) (fun c h=>hQ h)
  exact or_L hl2 g9 (hQ h)
 unfold ng15 at h
 refine Br.by h (fun c2 h=>?_) (fun c2 h=>?_)
 ·unfold icS at h
  refine Br.tr ?_
  refine Br.by (F:=fun z=>G (z,true)) h (fun c h=>?_) (fun c h=>hQ h)
  exact or_L hL g9 (hQ h)
 refine Br.no c8 ?_
 refine Br.fa ?_
 exact hQ h
end
noncomputable def verbsK:List T:=verbsL.map (·.1)
noncomputable def verbsI:List V:=verbsL.map fun p=>.int p.2
noncomputable def verbK (e:T):Int:=kindOf verbsK verbsI e
theorem verbs_ok:kindB verbsK verbsI verbsL (fun k=>decide (1 <= k) && decide (k <= 4)) = true:=by decide +kernel
theorem verb_get {e:T} {P:V->Prop} (h:e ∈ verbsK) (p:P (.int (verbK e))):Idx (dictGet verbsK verbsI e) P:=⟨_,(kind_of verbs_ok e h).1,p⟩
noncomputable def optV:Option T->V
 | none=>.none
 | some t=>.str t
noncomputable def alL:List T:=[cps "al",cps "épl",cps "auv"]
noncomputable def verbG (k:Int) (head:T) (first two:Int):Option T :=
 if k = 1 then (if (head.length:Int) >= two then some head else none)
 else if k = 3 then (if slice head (some (-1)) none = cps "e" then (if (head.length:Int) > first then some (slice head none (some (-1))) else some head) else some head)
 else if k = 4 then (if [cps "épl",cps "auv"].contains (endS head alL 0) = true then none else if endS head alL 0 = cps "al" then (if (head.length:Int) = 3 then none else some head) else some head)
 else some head
noncomputable def verb2 (w:T) (first two:Int):Option T:=if endS w verbsK first = cps "" then none else verbG (verbK (endS w verbsK first)) (cutS w (endS w verbsK first)) first two
noncomputable def verbF (e head w:T) (first two:Int):Option T :=
 if e = cps "" then verb2 w first two
 else if (head.length:Int) > first then (if gvL.contains (lastS head) = true then verb2 w first two else if lastS head = cps "H" then verb2 w first two else some head)
 else verb2 w first two
noncomputable def verbS (w:T) (first two:Int):Option T:=verbF (endS w shortL first) (cutS w (endS w shortL first)) w first two
section
variable {C:Tbl} {s:Stem} {Q:QE} {n:Nat}
theorem verb2_W (hC:C.loose = true) {w:T} {first two:Int} {a b:V} (h:Q (optV (verb2 w first two)) s) :
 seqK (wpSs (nT C) n (ss [.asgn 3 (.callF .end_ (es [(.loc 0),(.listOf (.callF .verbs (es []))),(.loc 1)])),.asgn 4 (.callF .cut (es [(.loc 0),(.loc 3)])),.ite (.cmp .Eq (.loc 3) (cs "")) (ss [.ret (.con .none)]) (ss []),.asgn 5 (.idx (.callF .verbs (es [])) (.loc 3)),.ite (.cmp .Eq (.loc 5) (cI 1)) (ss [.ret (.ite (.cmp .GtE (.len (.loc 4)) (.loc 2)) (.loc 4) (.con .none))]) (ss []),.ite (.cmp .Eq (.loc 5) (cI 3)) (ss [.ret (.ite (.bop .And (es [(.cmp .Eq (.slc (.loc 4) (.neg (cI 1)) (.con .none)) (cs "e")),(.cmp .Gt (.len (.loc 4)) (.loc 1))])) (.slc (.loc 4) (.con .none) (.neg (cI 1))) (.loc 4))]) (ss []),.ite (.cmp .Eq (.loc 5) (cI 4)) (ss [.asgn 6 (.callF .end_ (es [(.loc 4),(.list (es [(cs "al"),(cs "épl"),(cs "auv")])),(cI 0)])),.ret (.ite (.bop .Or (es [(.cmp .In (.loc 6) (.list (es [(cs "épl"),(cs "auv")]))),(.bop .And (es [(.cmp .Eq (.loc 6) (cs "al")),(.cmp .Eq (.len (.loc 4)) (cI 3))]))])) (.con .none) (.loc 4))]) (ss []),.ret (.loc 4)])) (runK Q) .next [some (.str w),some (.int first),some (.int two),some a,some b,none,none] s:=by
 have hm:=@endS_mem w verbsK first
 unfold verb2 at h
 refine verbs_W ?_
 refine Must.mk hC ?_
 refine end_W (ends:=verbsK) hC ?_
 generalize endS w verbsK first = e at *
 refine cut_W ?_
 generalize cutS w e = head at *
 generalize hG:(fun z:Option T=>Q (optV z) s) = G
 have hN:G none->Q .none s:=fun z=>by rw [<- hG] at z; exact z
 have hS:∀ {x:T},G (some x)->Q (.str x) s:=fun z=>by rw [<- hG] at z; exact z
 have h:G (if e = cps "" then none else verbG (verbK e) head first two):=by rw [<- hG]; exact h
 clear hG
 refine Br.by h (fun c h=>hN h) (fun he h=>?_)
 have hm:e ∈ verbsK:=hm.resolve_left he
 refine verbs_W ?_
 refine verb_get hm ?_
 generalize verbK e = k at *
 clear hm he
 unfold verbG at h
 refine Br.by h (fun c h=>?_) (fun c1 h=>?_)
 ·conv=>whnf
  exact Br.by h (fun c h=>hS h) (fun c h=>hN h)
 refine Br.by h (fun c h=>?_) (fun c3 h=>?_)
 ·conv=>whnf
  refine Br.by h (fun c h=>?_) (fun c h=>?_)
  ·conv=>whnf
   exact Br.by h (fun c h=>hS h) (fun c h=>hS h)
  ·conv=>whnf
   refine Br.fa ?_
   exact hS h
 refine Br.by h (fun c h=>?_) (fun c4 h=>?_)
 ·conv=>whnf
  refine end_W (C:=C) (ends:=alL) hC ?_
  generalize endS head alL 0 = e2 at *
  refine InL.lit rfl ?_
  refine Br.byB h (fun c h=>?_) (fun c h=>?_)
  ·conv=>whnf
   refine Br.tr ?_
   exact hN h
  ·conv=>whnf
   refine Br.by h (fun c h=>?_) (fun c h=>?_)
   ·conv=>whnf
    exact Br.by h (fun c h=>hN h) (fun c h=>hS h)
   ·conv=>whnf
    refine Br.fa ?_
    exact hS h
 exact hS h
theorem verb_W (hC:C.loose = true) (hs:C.short = shortV) {w:T} {first two:Int} (hf:0 <= first) (h:Q (optV (verbS w first two)) s):WF (nT (nT C)) .verb [.str w,.int first,.int two] s Q:=by
 unfold verbS at h
 refine WF.run rfl rfl ?_
 conv=>whnf
 rw [show (nT C).short = V.list (shortL.map .str) from hs]
 refine end_W (ends:=shortL) hC ?_
 generalize endS w shortL first = e at *
 refine cut_W ?_
 generalize cutS w e = head at *
 unfold verbF at h
 have fin:∀ {a b:V},Q (optV (verb2 w first two)) s->seqK (wpSs (nT C) (n0 + 1) (ss [.asgn 3 (.callF .end_ (es [(.loc 0),(.listOf (.callF .verbs (es []))),(.loc 1)])),.asgn 4 (.callF .cut (es [(.loc 0),(.loc 3)])),.ite (.cmp .Eq (.loc 3) (cs "")) (ss [.ret (.con .none)]) (ss []),.asgn 5 (.idx (.callF .verbs (es [])) (.loc 3)),.ite (.cmp .Eq (.loc 5) (cI 1)) (ss [.ret (.ite (.cmp .GtE (.len (.loc 4)) (.loc 2)) (.loc 4) (.con .none))]) (ss []),.ite (.cmp .Eq (.loc 5) (cI 3)) (ss [.ret (.ite (.bop .And (es [(.cmp .Eq (.slc (.loc 4) (.neg (cI 1)) (.con .none)) (cs "e")),(.cmp .Gt (.len (.loc 4)) (.loc 1))])) (.slc (.loc 4) (.con .none) (.neg (cI 1))) (.loc 4))]) (ss []),.ite (.cmp .Eq (.loc 5) (cI 4)) (ss [.asgn 6 (.callF .end_ (es [(.loc 4),(.list (es [(cs "al"),(cs "épl"),(cs "auv")])),(cI 0)])),.ret (.ite (.bop .Or (es [(.cmp .In (.loc 6) (.list (es [(cs "épl"),(cs "auv")]))),(.bop .And (es [(.cmp .Eq (.loc 6) (cs "al")),(.cmp .Eq (.len (.loc 4)) (cI 3))]))])) (.con .none) (.loc 4))]) (ss []),.ret (.loc 4)])) (runK Q) .next [some (.str w),some (.int first),some (.int two),some a,some b,none,none] s:=fun z=>verb2_W hC z
 refine Br.not (Br.by (F:=fun z=>Q (optV z) s) h (fun c h=>?_) (fun c h=>?_))
 ·conv=>whnf
  refine Br.fa ?_
  exact fin h
 refine Br.by (F:=fun z=>Q (optV z) s) h (fun c2 h=>?_) (fun c h=>?_)
 ·conv=>whnf
  refine last_ok3 (by lia) ?_
  refine vowels_W ?_
  refine InL.ok gv_strs ?_
  refine Br.not (Br.byB (F:=fun z=>Q (optV z) s) h (fun c h=>?_) (fun c h=>?_))
  ·conv=>whnf
   refine Br.fa ?_
   exact fin h
  ·conv=>whnf
   refine last_ok3 (by lia) ?_
   refine Br.not (Br.by (F:=fun z=>Q (optV z) s) h (fun c h=>?_) (fun c h=>?_))
   ·exact fin h
   ·exact h
 ·conv=>whnf
  refine Br.fa ?_
  exact fin h
end
noncomputable def lastD:V:=.dict [cps "e",cps "Ière",cps "ière",cps "ion",cps "Ier",cps "ier"] [.int 3,.int 2,.int 2,.int 1,.int 2,.int 2]
noncomputable def restL:List (T × Int):=[(cps "e",3),(cps "Ière",2),(cps "ière",2),(cps "ion",1),(cps "Ier",2),(cps "ier",2)]
noncomputable def restK:List T:=restL.map (·.1)
noncomputable def restI:List V:=restL.map fun p=>.int p.2
noncomputable def endK (e:T):Int:=kindOf restK restI e
theorem rest_ok:kindB restK restI restL (fun k=>decide (1 <= k) && decide (k <= 3)) = true:=by decide +kernel
theorem rest_get {e:T} {P:V->Prop} (h:e ∈ restK) (p:P (.int (endK e))):Idx (dictGet restK restI e) P:=⟨_,(kind_of rest_ok e h).1,p⟩
noncomputable def chop (w:T):T:=slice w none (some (-1))
noncomputable def unG (c w:T):T :=
 if slice w (some (-1)) none = cps "s" then (if slice c (some (-2)) none = cps "Hi" then c else if c = cps "" then w else if kwsL.contains (lastS c) = true then w else c) else w
noncomputable def unS (w:T):T:=unG (chop w) w
noncomputable def restG (k:Int) (w head:T) (first two:Int):T :=
 if k = 1 then (if (head.length:Int) >= two then (if (head.length:Int) > first then (if [cps "s",cps "t"].contains (lastS head) = true then head else w) else w) else w)
 else if k = 2 then head ++ cps "i" else head
noncomputable def restF (w:T) (first two:Int):T:=if endS w restK first = cps "" then w else restG (endK (endS w restK first)) w (cutS w (endS w restK first)) first two
noncomputable def restS (w:T) (first two:Int):T:=restF (unS w) first two
theorem chop_len (w:T):(chop w).length <= w.length:=slice_le _ _ _
section
variable {C:Tbl} {s:Stem} {Q:QE} {n:Nat}
theorem last_W (h:Q lastD s):WF (nT C) .last [] s Q:=WF.run rfl rfl ⟨rfl,h⟩
theorem restF_W (hC:C.loose = true) {w:T} {first two:Int} {a:V} (hl:w.length <= 80000) (hf:0 <= first) (h:Q (.str (restF w first two)) s) :
 seqK (wpSs (nT C) n (ss [.asgn 4 (.callF .end_ (es [(.loc 0),(.listOf (.callF .last (es []))),(.loc 1)])),.asgn 5 (.callF .cut (es [(.loc 0),(.loc 4)])),.ite (.cmp .Eq (.loc 4) (cs "")) (ss [.ret (.loc 0)]) (ss []),.ite (.cmp .Eq (.idx (.callF .last (es [])) (.loc 4)) (cI 1)) (ss [.ret (.ite (.bop .And (es [(.cmp .GtE (.len (.loc 5)) (.loc 2)),(.cmp .Gt (.len (.loc 5)) (.loc 1)),(.cmp .In (.idx (.loc 5) (.neg (cI 1))) (.list (es [(cs "s"),(cs "t")])))])) (.loc 5) (.loc 0))]) (ss []),.ret (.ite (.cmp .Eq (.idx (.callF .last (es [])) (.loc 4)) (cI 2)) (.bin .Add (.loc 5) (cs "i")) (.loc 5))])) (runK Q) .next [some (.str w),some (.int first),some (.int two),some a,none,none] s:=by
 have hm:=@endS_mem w restK first
 unfold restF at h
 refine last_W ?_
 refine Must.mk hC ?_
 refine end_W (ends:=restK) hC ?_
 generalize endS w restK first = e at *
 refine cut_W ?_
 have hL:(cutS w e).length <= 90000:=by have:=cut_len w e; lia
 generalize cutS w e = head at *
 refine Br.by (F:=fun z=>Q (.str z) s) h (fun c h=>h) (fun he h=>?_)
 have hm:e ∈ restK:=hm.resolve_left he
 clear he hl
 refine last_W ?_
 refine rest_get hm ?_
 have again:∀ {P:V->Prop},P (.int (endK e))->Idx (dictGet restK restI e) P:=fun p=>rest_get hm p
 generalize endK e = k at *
 clear hm
 unfold restG at h
 refine Br.by (F:=fun z=>Q (.str z) s) h (fun c h=>?_) (fun he h=>?_)
 ·clear again
  refine Br.by (F:=fun z=>Q (.str z) s) h (fun c h=>?_) (fun c h=>?_)
  ·conv=>whnf
   refine Br.by (F:=fun z=>Q (.str z) s) h (fun c h=>?_) (fun c h=>?_)
   ·conv=>whnf
    refine last_ok3 (by lia) ?_
    refine InL.lit rfl ?_
    exact Br.byB (F:=fun z=>Q (.str z) s) h (fun c h=>h) (fun c h=>h)
   ·conv=>whnf
    refine Br.fa ?_
    exact h
  ·conv=>whnf
   refine Br.fa ?_
   exact h
 ·conv=>whnf
  refine last_W ?_
  refine again ?_
  refine Br.by (F:=fun z=>Q (.str z) s) h (fun c h=>?_) (fun c h=>h)
  exact Cat.of hL (by decide +kernel) h
theorem rest_W (hC:C.loose = true) {w:T} {first two:Int} (hl:w.length <= 80000) (hf:0 <= first) (h:Q (.str (restS w first two)) s):WF (nT (nT C)) .rest [.str w,.int first,.int two] s Q:=by
 unfold restS at h
 have hc:(chop w).length <= 80000:=Nat.le_trans (chop_len w) hl
 have fin:∀ {x:T},x.length <= 80000->Q (.str (restF x first two)) s->seqK (wpSs (nT C) (n0 + 1) (ss [.asgn 4 (.callF .end_ (es [(.loc 0),(.listOf (.callF .last (es []))),(.loc 1)])),.asgn 5 (.callF .cut (es [(.loc 0),(.loc 4)])),.ite (.cmp .Eq (.loc 4) (cs "")) (ss [.ret (.loc 0)]) (ss []),.ite (.cmp .Eq (.idx (.callF .last (es [])) (.loc 4)) (cI 1)) (ss [.ret (.ite (.bop .And (es [(.cmp .GtE (.len (.loc 5)) (.loc 2)),(.cmp .Gt (.len (.loc 5)) (.loc 1)),(.cmp .In (.idx (.loc 5) (.neg (cI 1))) (.list (es [(cs "s"),(cs "t")])))])) (.loc 5) (.loc 0))]) (ss []),.ret (.ite (.cmp .Eq (.idx (.callF .last (es [])) (.loc 4)) (cI 2)) (.bin .Add (.loc 5) (cs "i")) (.loc 5))])) (runK Q) .next [some (.str x),some (.int first),some (.int two),some (.str (chop w)),none,none] s:=fun z1 z2=>restF_W hC z1 hf z2
 unfold unS unG at h
 refine WF.run rfl rfl ?_
 refine Br.by (F:=fun z=>Q (.str (restF z first two)) s) h (fun c h=>?_) (fun c h=>?_)
 ·conv=>whnf
  refine Br.by (F:=fun z=>Q (.str (restF z first two)) s) h (fun c h=>?_) (fun c h=>?_)
  ·conv=>whnf
   refine Br.tr ?_
   exact fin hc h
  ·conv=>whnf
   refine Br.not (Br.by (F:=fun z=>Q (.str (restF z first two)) s) h (fun c h=>?_) (fun c h=>?_))
   ·conv=>whnf
    refine Br.fa ?_
    exact fin hl h
   ·conv=>whnf
    refine last_ok2 c ?_
    refine InL.lit rfl ?_
    refine Br.not (Br.byB (F:=fun z=>Q (.str (restF z first two)) s) h (fun c h=>?_) (fun c h=>?_))
    ·exact fin hl h
    ·exact fin hc h
 ·conv=>whnf
  refine Br.fa ?_
  exact fin hl h
end
theorem repl_len {a b:T} (h:b.length <= a.length) (ha:0 < a.length):∀ (n:Nat) (l:T),(replAll a b n l).length <= l.length
 | 0,l=>Nat.le_refl _
 | n + 1,[]=>Nat.le_refl _
 | n + 1,x :: r=>by
  show (if a.isPrefixOf (x :: r) then b ++ replAll a b n ((x :: r).drop a.length) else x :: replAll a b n r).length <= _
  split
  ·rename_i hp
   have hp:=(List.isPrefixOf_iff_prefix.mp hp).length_le
   have ih:=repl_len h ha n ((x :: r).drop a.length)
   rw [List.length_drop] at ih
   rw [List.length_append]
   omega
  ·exact Nat.succ_le_succ (repl_len h ha n r)
noncomputable def rep (a b:T) (s:T):T:=replAll a b s.length s
noncomputable def postS (d:T):T:=rep (cps "Y") (cps "y") (rep (cps "U") (cps "u") (rep (cps "I") (cps "i") (rep (cps "H") (cps "") (rep (cps "Hi") (cps "ï") (rep (cps "He") (cps "ë") d)))))
noncomputable def pairB (a b:T):Bool:=!a.isEmpty && !decide (a = b) && decide (b.length <= 10) && decide (b.length <= a.length) && decide (0 < a.length)
theorem pair_spec {a b:T} (h:pairB a b = true):(!a.isEmpty && !decide (a = b) && decide (b.length <= 10)) = true /\ b.length <= a.length /\ 0 < a.length:=by
 unfold pairB at h
 rw [Bool.and_eq_true,Bool.and_eq_true,decide_eq_true_eq,decide_eq_true_eq] at h
 exact ⟨h.1.1,h.1.2,h.2⟩
theorem repl_step {a b s:T} {k x y:Option V} {r:List (T × T)} {P:Lc->Prop} (hp:pairB a b = true) (hs:s.length <= lim)
 (h:(rep a b s).length <= lim->wRepl 0 2 3 r [some (.str (rep a b s)),k,some (.str a),some (.str b)] P):wRepl 0 2 3 ((a,b) :: r) [some (.str s),k,x,y] P:=by
 obtain ⟨h1,h2,h3⟩:=pair_spec hp
 have hl:(rep a b s).length <= lim:=Nat.le_trans (repl_len h2 h3 _ _) hs
 exact (show Must (!a.isEmpty && !decide (a = b) && decide (b.length <= 10) && decide ((rep a b s).length <= lim)) _ from ⟨by rw [h1,decide_eq_true hl]; rfl,h hl⟩)
theorem repl_all {d:T} {k x y:Option V} {P:Lc->Prop} (hd:d.length <= lim) (h:∀ k x y,P [some (.str (postS d)),k,x,y]) :
 wRepl 0 2 3 [((cps "He"),(cps "ë")),((cps "Hi"),(cps "ï")),((cps "H"),(cps "")),((cps "I"),(cps "i")),((cps "U"),(cps "u")),((cps "Y"),(cps "y"))] [some (.str d),k,x,y] P :=
 repl_step (by decide +kernel) hd fun hd=>repl_step (by decide +kernel) hd fun hd=>repl_step (by decide +kernel) hd fun hd=>repl_step (by decide +kernel) hd fun hd=>repl_step (by decide +kernel) hd fun hd=>repl_step (by decide +kernel) hd fun hd=>h _ _ _
noncomputable def runB (d:T):Nat:=runN (fun c=>isV c == false) d.reverse
noncomputable def dblS (w:T):T:=if slice w (some (-4)) none = cps "eill" then chop w else if [cps "ell",cps "enn",cps "onn",cps "ett"].contains (slice w (some (-3)) none) = true then chop w else w
noncomputable def accG (d:T) (k:Nat):T:=if (0:Int) < (k:Int) then (if (k:Int) < (d.length:Int) then (if [cps "é",cps "è"].contains [d.getD (k - 1) 0] = true then d.take (k - 1) ++ cps "e" ++ d.drop k else d) else d) else d
noncomputable def accS (d:T):T:=accG d (d.length - runB d)
noncomputable def plainS (w:T):T:=postS (accS (dblS w))
section
variable {s:Stem} {n:Nat}
theorem svowels_W {Q:QE} (h:Q (.list (gvL.map .str)) s):WF strict1 .vowels [] s Q:=⟨⟨rfl,h⟩⟩
theorem back_at {d:T} {j:Nat} (hj:j < d.length):∃ c,pyAt d (((d.length - j:Nat):Int) - 1) = some c /\ d.reverse[j]? = some c:=by
 refine ⟨d[d.length - 1 - j],?_,?_⟩
 ·rw [pyAt_eq _ _ (d.length - 1 - j) (by lia),List.getElem?_eq_getElem]
 ·rw [List.getElem?_reverse hj,List.getElem?_eq_getElem]
theorem back_loop {d:T} {Q:QS}:∀ (m j:Nat),d.length - j < m->j <= d.length->Q .next [some (.str d),some (.int ((d.length - (j + runN (fun c=>isV c == false) (d.reverse.drop j)):Nat):Int)),none,none] s ->
 WW (wpE strict1 (.bop .And (es [(.cmp .Gt (.loc 1) (cI 0)),(.cmp .NotIn (.idx (.loc 0) (.bin .Sub (.loc 1) (cI 1))) (.callF .vowels (es [])))]))) (wpSs strict1 n (ss [.augL 1 .Sub (cI 1)])) m [some (.str d),some (.int ((d.length - j:Nat):Int)),none,none] s Q
 | 0,j,h,_,_=>by lia
 | m + 1,j,hm,hj,h=>by
  have ih:=back_loop (Q:=Q) (d:=d) m (j + 1)
  refine WW.step ?_
  refine Br.dec (fun h1=>?_) (fun h1=>?_)
  ·obtain ⟨c,e,e2⟩:=back_at (d:=d) (j:=j) (by lia)
   rw [runN_at e2] at h
   refine Idx.of e ?_
   refine svowels_W ?_
   refine InL.ok gv_strs ?_
   refine Br.not (Br.mk (fun h2=>?_) (fun h2=>?_))
   ·rw [if_neg (by rw [show isV c = true from h2]; exact fT)] at h
    exact h
   ·rw [if_pos (by rw [show isV c = false from h2]; rfl),show j + (runN (fun c=>isV c == false) (d.reverse.drop (j + 1)) + 1) = j + 1 + runN (fun c=>isV c == false) (d.reverse.drop (j + 1)) by lia] at h
    have:=ih (by lia) (by lia) h
    rw [show ((d.length - (j + 1):Nat):Int) = ((d.length - j:Nat):Int) - 1 by lia] at this
    exact this.ex
  ·rw [List.drop_of_length_le (by rw [List.length_reverse]; lia)] at h
   exact Br.fa h
theorem plain_end {d:T} {k x y:Option V} {Q:QE} (hd:d.length <= lim) (h:Q (.str (postS d)) s) :
 seqK (wpSs strict1 n (ss [.forRepl 0 2 3 [((cps "He"),(cps "ë")),((cps "Hi"),(cps "ï")),((cps "H"),(cps "")),((cps "I"),(cps "i")),((cps "U"),(cps "u")),((cps "Y"),(cps "y"))],.ret (.loc 0)])) (runK Q) .next [some (.str d),k,x,y] s:=by
 refine (show Must (!strict1.loose) (wRepl 0 2 3 _ [some (.str d),k,x,y] _) from ⟨rfl,repl_all hd fun k x y=>?_⟩)
 exact h
theorem getD_at {d:T} {k:Nat} (h0:(0:Int) < (k:Int)) (h1:(k:Int) < (d.length:Int)):pyAt d ((k:Int) - 1) = some (d.getD (k - 1) 0):=by
 have hk:k - 1 < d.length:=by lia
 rw [pyAt_eq _ _ (k - 1) (by lia),List.getD_eq_getElem?_getD,List.getElem?_eq_getElem hk]; rfl
theorem plain_tail {d:T} {k:Nat} {Q:QE} (hd:d.length <= 900) (h:Q (.str (postS (accG d k))) s) :
 seqK (wpSs strict1 n (ss [.ite (.bop .And (es [(.cmp2 .Lt .Lt (cI 0) (.loc 1) (.len (.loc 0))),(.cmp .In (.idx (.loc 0) (.bin .Sub (.loc 1) (cI 1))) (.list (es [(cs "é"),(cs "è")])))])) (ss [.asgn 0 (.bin .Add (.bin .Add (.slc (.loc 0) (.con .none) (.bin .Sub (.loc 1) (cI 1))) (cs "e")) (.slc (.loc 0) (.loc 1) (.con .none)))]) (ss []),.forRepl 0 2 3 [((cps "He"),(cps "ë")),((cps "Hi"),(cps "ï")),((cps "H"),(cps "")),((cps "I"),(cps "i")),((cps "U"),(cps "u")),((cps "Y"),(cps "y"))],.ret (.loc 0)])) (runK Q) .next [some (.str d),some (.int (k:Int)),none,none] s:=by
 have hlim:lim = 100000:=rfl
 have fin:∀ {x:T},x.length <= 2000->Q (.str (postS x)) s->seqK (wpSs strict1 n (ss [.forRepl 0 2 3 [((cps "He"),(cps "ë")),((cps "Hi"),(cps "ï")),((cps "H"),(cps "")),((cps "I"),(cps "i")),((cps "U"),(cps "u")),((cps "Y"),(cps "y"))],.ret (.loc 0)])) (runK Q) .next [some (.str x),some (.int (k:Int)),none,none] s:=fun z1 z2=>plain_end (by lia) z2
 have le:(cps "e").length = 1:=by decide +kernel
 unfold accG at h
 refine Br.by (F:=fun z=>Q (.str (postS z)) s) h (fun h0 h=>?_) (fun c h=>?_)
 ·conv=>whnf
  refine Br.by (F:=fun z=>Q (.str (postS z)) s) h (fun h1 h=>?_) (fun c h=>?_)
  ·have e1:slice d none (some ((k:Int) - 1)) = d.take (k - 1):=by rw [show (k:Int) - 1 = ((k - 1:Nat):Int) by lia,slice_tn]
   have e2:slice d (some (k:Int)) none = d.drop k:=slice_nt _ _
   have l1:(d.take (k - 1) ++ cps "e").length <= 901:=by rw [List.length_append,List.length_take]; omega
   have l2:(d.take (k - 1) ++ cps "e" ++ d.drop k).length <= 1801:=by rw [List.length_append,List.length_drop]; lia
   have e3:=getD_at h0 h1
   clear h0 h1
   refine Idx.of e3 ?_
   refine InL.lit rfl ?_
   refine Br.byB (F:=fun z=>Q (.str (postS z)) s) h (fun c h=>?_) (fun c h=>fin (by lia) h)
   conv=>whnf
   rw [e1]
   refine Cat.ok (by lia) ?_
   conv=>whnf
   rw [e2]
   refine Cat.ok (by lia) ?_
   exact fin (by lia) h
  ·conv=>whnf
   refine Br.fa ?_
   exact fin (by lia) h
 ·conv=>whnf
  refine Br.fa ?_
  refine Br.fa ?_
  exact fin (by lia) h
theorem plain_mid {w:T} {Q:QE} (hw:w.length <= 900) (h:Q (.str (postS (accS w))) s) :
 seqK (wpSs strict1 (n0 + 1) (ss [.asgn 1 (.len (.loc 0)),.whl (.bop .And (es [(.cmp .Gt (.loc 1) (cI 0)),(.cmp .NotIn (.idx (.loc 0) (.bin .Sub (.loc 1) (cI 1))) (.callF .vowels (es [])))])) (ss [.augL 1 .Sub (cI 1)]),.ite (.bop .And (es [(.cmp2 .Lt .Lt (cI 0) (.loc 1) (.len (.loc 0))),(.cmp .In (.idx (.loc 0) (.bin .Sub (.loc 1) (cI 1))) (.list (es [(cs "é"),(cs "è")])))])) (ss [.asgn 0 (.bin .Add (.bin .Add (.slc (.loc 0) (.con .none) (.bin .Sub (.loc 1) (cI 1))) (cs "e")) (.slc (.loc 0) (.loc 1) (.con .none)))]) (ss []),.forRepl 0 2 3 [((cps "He"),(cps "ë")),((cps "Hi"),(cps "ï")),((cps "H"),(cps "")),((cps "I"),(cps "i")),((cps "U"),(cps "u")),((cps "Y"),(cps "y"))],.ret (.loc 0)])) (runK Q) .next [some (.str w),none,none,none] s:=by
 refine (show WW (wpE strict1 (.bop .And (es [(.cmp .Gt (.loc 1) (cI 0)),(.cmp .NotIn (.idx (.loc 0) (.bin .Sub (.loc 1) (cI 1))) (.callF .vowels (es [])))]))) (wpSs strict1 (n0 + 1) (ss [.augL 1 .Sub (cI 1)])) (n0 + 1) [some (.str w),some (.int ((w.length - 0:Nat):Int)),none,none] s _ from back_loop (n0 + 1) 0 (by show w.length - 0 < 1000; lia) (Nat.zero_le _) ?_)
 rw [List.drop_zero,Nat.zero_add]
 exact plain_tail hw h
theorem plain_W {C:Tbl} {w:T} {Q:QE} (hw:w.length <= 900) (h:Q (.str (plainS w)) s):WF (nT C) .plain [.str w] s Q:=by
 have hc:(chop w).length <= 900:=Nat.le_trans (chop_len w) hw
 have fin:∀ {x:T},x.length <= 900->Q (.str (postS (accS x))) s->seqK (wpSs strict1 (n0 + 1) (ss [.asgn 1 (.len (.loc 0)),.whl (.bop .And (es [(.cmp .Gt (.loc 1) (cI 0)),(.cmp .NotIn (.idx (.loc 0) (.bin .Sub (.loc 1) (cI 1))) (.callF .vowels (es [])))])) (ss [.augL 1 .Sub (cI 1)]),.ite (.bop .And (es [(.cmp2 .Lt .Lt (cI 0) (.loc 1) (.len (.loc 0))),(.cmp .In (.idx (.loc 0) (.bin .Sub (.loc 1) (cI 1))) (.list (es [(cs "é"),(cs "è")])))])) (ss [.asgn 0 (.bin .Add (.bin .Add (.slc (.loc 0) (.con .none) (.bin .Sub (.loc 1) (cI 1))) (cs "e")) (.slc (.loc 0) (.loc 1) (.con .none)))]) (ss []),.forRepl 0 2 3 [((cps "He"),(cps "ë")),((cps "Hi"),(cps "ï")),((cps "H"),(cps "")),((cps "I"),(cps "i")),((cps "U"),(cps "u")),((cps "Y"),(cps "y"))],.ret (.loc 0)])) (runK Q) .next [some (.str x),none,none,none] s:=fun z1 z2=>plain_mid z1 z2
 unfold plainS dblS at h
 refine WF.mk (show runI strict1 (n0 + 1) irf_plain [.str w] s Q from ⟨rfl,?_⟩)
 refine Br.by (F:=fun z=>Q (.str (postS (accS z))) s) h (fun c h=>?_) (fun c h=>?_)
 ·conv=>whnf
  refine Br.tr ?_
  exact fin hc h
 ·conv=>whnf
  refine InL.lit rfl ?_
  refine Br.byB (F:=fun z=>Q (.str (postS (accS z))) s) h (fun c h=>?_) (fun c h=>?_)
  ·exact fin hc h
  ·exact fin hw h
end
theorem ite0 {c:Prop} [Decidable c] {x y:T} {n:Nat} (h1:x.length <= n) (h2:y.length <= n):(if c then x else y).length <= n:=by split; exact h1; exact h2
theorem ite1 {c:Prop} [Decidable c] {x y:T × Bool} {n:Nat} (h1:x.1.length <= n) (h2:y.1.length <= n):(if c then x else y).1.length <= n:=by split; exact h1; exact h2
theorem app0 {x y:T} {n:Nat} (h1:x.length <= n) (h2:y.length <= 10):(x ++ y).length <= n + 10:=by rw [List.length_append]; lia
theorem or_len {w e o:T} {low:Int} {n:Nat} (hw:w.length <= n) (ho:o.length <= 10):(orS w e low o).length <= n + 10 :=
 ite0 (Nat.le_trans (Nat.le_trans (cut_len _ _) hw) (Nat.le_add_right _ _)) (app0 (Nat.le_trans (cut_len _ _) hw) ho)
theorem up10 {a n:Nat} (h:a <= n):a <= n + 10:=Nat.le_trans h (Nat.le_add_right _ _)
theorem adverb_len {head:T} {a b c:Int} {n:Nat} (hw:head.length <= n):(adverbS head a b c).length <= n + 10:=by
 have h0:=Nat.le_trans (cut_len head (endS head moreL 0)) hw
 unfold adverbS adverbG
 exact ite0 (up10 (Nat.le_trans (less_len _ _ _) h0)) (ite0 (ite0 (up10 h0) (ite0 (app0 h0 (by decide +kernel)) (up10 hw))) (ite0 (ite0 (app0 h0 (by decide +kernel)) (up10 hw)) (ite0 (up10 h0) (up10 hw))))
theorem abil_len {head:T} {c:Int} {n:Nat} (hw:head.length <= n):(abilS head c).length <= n + 10:=ite0 (up10 (Nat.le_trans (less_len _ _ _) hw)) (or_len hw (abilO_len _))
theorem ic_len {head:T} {c:Int} {n:Nat} (hw:head.length <= n):(icS head c).length <= n + 10:=ite0 (or_len hw (by decide +kernel)) (up10 hw)
theorem if_len {head:T} {c:Int} {n:Nat} (hw:head.length <= n):(ifS head c).length <= n + 10:=ite0 (up10 hw) (ic_len (Nat.le_trans (less_len _ _ _) hw))
theorem pr {x:T} {b:Bool} {n:Nat} (h:x.length <= n):((x,b):T × Bool).1.length <= n:=h
theorem nounG_len {k:Int} {w head e:T} {a b c:Int} {n:Nat} (hw:w.length <= n) (hh:head.length <= n):(nounG k w head e a b c).1.length <= n + 10:=by
 obtain ⟨g1,g2,g3,g4,g5,g6,g7,g8,g9,g10,g11,g12,g13,g14⟩:=len10
 unfold nounG
 have w1:∀ {b:Bool},((w,b):T × Bool).1.length <= n + 10:=pr (up10 hw)
 have h1:∀ {b:Bool},((head,b):T × Bool).1.length <= n + 10:=pr (up10 hh)
 have a1:∀ {y:T} {b:Bool},y.length <= 10->((head ++ y,b):T × Bool).1.length <= n + 10:=fun z=>pr (app0 hh z)
 exact ite1 (pr (ite0 (up10 hw) (app0 hh g1))) (ite1 (pr (ite0 (up10 hw) (app0 hh g2))) (ite1 (pr (ite0 (ite0 (up10 hh) (up10 hw)) (up10 hw))) (ite1 (a1 g3) (ite1 (ite1 w1 (a1 g4)) (ite1 (ite1 (a1 g5) w1) (ite1 (ite1 w1 (pr (or_len hw g6)))
  (ite1 (ite1 w1 (ite1 w1 (ite1 w1 h1))) (ite1 (ite1 w1 (pr (adverb_len hh))) (ite1 w1 (ite1 (a1 g7) (ite1 (a1 g8) (ite1 (a1 g2) (ite1 (pr (abil_len hh)) (ite1 (pr (if_len hh)) (ite1 (pr (ic_len hh)) h1)))))))))))))))
theorem noun_len {w:T} {a b c:Int} {n:Nat} (hw:w.length <= n):(nounS w a b c).1.length <= n + 10:=ite1 (up10 hw) (nounG_len hw (Nat.le_trans (cut_len _ _) hw))
def LeO (o:Option T) (n:Nat):Prop:=∀ r,o = some r->r.length <= n
theorem iteO {c:Prop} [Decidable c] {x y:Option T} {n:Nat} (h1:LeO x n) (h2:LeO y n):LeO (if c then x else y) n:=by split; exact h1; exact h2
theorem LeO.s {t:T} {n:Nat} (h:t.length <= n):LeO (some t) n:=fun r e=>by cases e; exact h
theorem LeO.n {n:Nat}:LeO none n:=fun r e=>nomatch e
theorem verb_len {w:T} {a b:Int} {n:Nat} (hw:w.length <= n):LeO (verbS w a b) n:=by
 have h1:=Nat.le_trans (cut_len w (endS w shortL a)) hw
 have h2:=Nat.le_trans (cut_len w (endS w verbsK a)) hw
 have hv:LeO (verb2 w a b) n:=by
  unfold verb2 verbG
  exact iteO LeO.n (iteO (iteO (LeO.s h2) LeO.n) (iteO (iteO (iteO (LeO.s (Nat.le_trans (slice_le _ _ _) h2)) (LeO.s h2)) (LeO.s h2)) (iteO (iteO LeO.n (iteO (iteO LeO.n (LeO.s h2)) (LeO.s h2))) (LeO.s h2))))
 unfold verbS verbF
 exact iteO hv (iteO (iteO hv (iteO hv (LeO.s h1))) hv)
theorem rest_len {w:T} {a b:Int} {n:Nat} (hw:w.length <= n):(restS w a b).length <= n + 10:=by
 have hc:=Nat.le_trans (chop_len w) hw
 have h0:(unS w).length <= n:=ite0 (ite0 hc (ite0 hw (ite0 hw hc))) hw
 have h1:=Nat.le_trans (cut_len (unS w) (endS (unS w) restK a)) h0
 unfold restS restF restG
 exact ite0 (up10 h0) (ite0 (ite0 (ite0 (ite0 (up10 h1) (up10 h0)) (up10 h0)) (up10 h0)) (ite0 (app0 h1 (by decide +kernel)) (up10 h1)))
noncomputable def ycS (t:T):T:=if slice t (some (-1)) none = cps "Y" then chop t ++ cps "i" else if slice t (some (-1)) none = cps "ç" then chop t ++ cps "c" else t
noncomputable def toldS (x:T × Bool) (first two:Int):Option T:=if x.2 = true then some x.1 else verbS x.1 first two
noncomputable def endG (x:T) (first two:Int):Option T->T
 | none=>restS x first two
 | some t=>ycS t
noncomputable def stemG (x:T × Bool) (first two:Int):T:=plainS (endG x.1 first two (toldS x first two))
noncomputable def stemF (m:T):T:=stemG (nounS m (firstS m) (behindS m 0) (behindS m (behindS m 0))) (firstS m) (behindS m (behindS m 0))
noncomputable def stemS (w:T):T:=stemF (markedS w)
theorem yc_len {t:T} {n:Nat} (hw:t.length <= n):(ycS t).length <= n + 10:=by
 have hc:=Nat.le_trans (chop_len t) hw
 exact ite0 (app0 hc (by decide +kernel)) (ite0 (app0 hc (by decide +kernel)) (up10 hw))
section
variable {C:Tbl} {s:Stem} {Q:QE} {n:Nat}
theorem yc_W {t:T} {w a b d e:V} (ht:t.length <= 800) (h:Q (.str (plainS (ycS t))) s) :
 seqK (wpSs (nT (nT (nT (nT C)))) n (ss [.ite (.cmp .Eq (.slc (.loc 5) (.neg (cI 1)) (.con .none)) (cs "Y")) (ss [.asgn 5 (.bin .Add (.slc (.loc 5) (.con .none) (.neg (cI 1))) (cs "i"))]) (ss [.ite (.cmp .Eq (.slc (.loc 5) (.neg (cI 1)) (.con .none)) (cs "ç")) (ss [.asgn 5 (.bin .Add (.slc (.loc 5) (.con .none) (.neg (cI 1))) (cs "c"))]) (ss [])]),.ret (.callF .plain (es [(.loc 5)]))])) (runK Q) .next [some w,some a,some b,some d,some e,some (.str t)] s:=by
 have hc:=Nat.le_trans (chop_len t) ht
 have c10:∀ {y:T} {P:V->Prop},y.length <= 10->P (.str (chop t ++ y))->Cat (chop t) y P:=fun h1 h2=>Cat.of (by lia) h1 h2
 have fin:∀ {x:T},x.length <= 810->Q (.str (plainS x)) s->WF (nT (nT (nT (nT C)))) .plain [.str x] s Q:=fun z1 z2=>plain_W (by lia) z2
 have ci:(cps "i").length <= 10:=by decide +kernel
 have cc:(cps "c").length <= 10:=by decide +kernel
 unfold ycS at h
 refine Br.by (F:=fun z=>Q (.str (plainS z)) s) h (fun c h=>?_) (fun c h=>?_)
 ·conv=>whnf
  refine c10 ci ?_
  exact fin (app0 hc ci) h
 ·conv=>whnf
  refine Br.by (F:=fun z=>Q (.str (plainS z)) s) h (fun c h=>?_) (fun c h=>?_)
  ·conv=>whnf
   refine c10 cc ?_
   exact fin (app0 hc cc) h
  ·exact fin (by lia) h
theorem told_W {x:T} {first two:Int} {o:Option T} {b d:V} (hC:C.loose = true) (hf:0 <= first) (hx:x.length <= 800) (ho:LeO o 800) (h:Q (.str (plainS (endG x first two o))) s) :
 seqK (wpSs (nT (nT (nT (nT C)))) n (ss [.ite (.cmp .Is (.loc 5) (.con .none)) (ss [.ret (.callF .plain (es [(.callF .rest (es [(.loc 0),(.loc 1),(.loc 3)]))]))]) (ss []),.ite (.cmp .Eq (.slc (.loc 5) (.neg (cI 1)) (.con .none)) (cs "Y")) (ss [.asgn 5 (.bin .Add (.slc (.loc 5) (.con .none) (.neg (cI 1))) (cs "i"))]) (ss [.ite (.cmp .Eq (.slc (.loc 5) (.neg (cI 1)) (.con .none)) (cs "ç")) (ss [.asgn 5 (.bin .Add (.slc (.loc 5) (.con .none) (.neg (cI 1))) (cs "c"))]) (ss [])]),.ret (.callF .plain (es [(.loc 5)]))])) (runK Q) .next [some (.str x),some (.int first),some b,some (.int two),some d,some (optV o)] s:=by
 cases o with
 | none =>
  refine Br.tr ?_
  refine rest_W (C:=nT (nT C)) hC (by lia) hf ?_
  have hr:=rest_len (a:=first) (b:=two) hx
  exact plain_W (by lia) h
 | some t =>
  refine Br.fa ?_
  exact yc_W (ho t rfl) h
theorem stem_W (hC:C.loose = true) (hs:C.short = shortV) {w:T} (hw:w.length <= 100) (h:Q (.str (stemS w)) s):WF (nT (nT (nT (nT (nT C))))) .stem [.str w] s Q:=by
 have hm:=marked_len w
 unfold stemS at h
 refine WF.run rfl rfl ?_
 refine marked_W (C:=nT (nT C)) hC (by lia) ?_
 generalize markedS w = m at *
 unfold stemF at h
 refine first_W (C:=nT (nT C)) hC (by lia) ?_
 generalize firstS m = first at *
 refine behind_W (C:=nT (nT C)) (k:=0) hC (by lia) ?_
 generalize behindS m 0 = one at *
 refine behind_W (C:=nT (nT C)) hC (by lia) ?_
 generalize behindS m one = two at *
 refine noun_W hC (by lia) ?_
 have hn:=noun_len (a:=first) (b:=one) (c:=two) (show m.length <= 600 by lia)
 generalize nounS m first one two = x at *
 obtain ⟨x,b⟩:=x
 have hn:x.length <= 610:=hn
 have hv:=verb_len (a:=first) (b:=two) hn
 unfold stemG toldS at h
 refine Br.byB (F:=fun o=>Q (.str (plainS (endG x first two o))) s) h (fun hb h=>?_) (fun hb h=>?_)
 ·exact told_W (o:=some x) hC (by lia) (by lia) (LeO.s (by lia)) h
 ·conv=>whnf
  refine verb_W (C:=nT (nT C)) hC hs (by lia) ?_
  generalize verbS x first two = o at *
  exact told_W (o:=o) hC (by lia) (by lia) (fun r e=>Nat.le_trans (hv r e) (by lia)) h
end
theorem slice_neg (w:T) (k:Nat) (hk:0 < k):slice w (some (-(k:Int))) none = w.drop (w.length - k):=by
 have e:adj w.length (-(k:Int)) = w.length - k:=by unfold adj; rw [if_pos (by lia)]; lia
 unfold slice
 simp only [Option.map_some,Option.getD_some,Option.map_none,Option.getD_none]
 rw [e,List.take_of_length_le (Nat.le_refl _)]
theorem slice_back {w x:T} {k:Nat} (hx:x.length = k) (hk:0 < k):slice w (some (-(k:Int))) none = x ↔ x.isSuffixOf w = true:=by
 rw [slice_neg _ _ hk,List.isSuffixOf_iff_suffix,List.suffix_iff_eq_drop,hx]
 exact ⟨fun h=>h.symm,fun h=>h.symm⟩
theorem chop_snoc (p:T) (c:Nat):chop (p ++ [c]) = p:=by
 have e:adj (p ++ [c]).length (-1) = p.length:=by unfold adj; rw [if_pos (by decide),List.length_append,List.length_singleton]; lia
 unfold chop slice
 simp only [Option.map_some,Option.getD_some,Option.map_none,Option.getD_none,List.drop_zero]
 rw [e,List.take_left' rfl]
theorem dbl_no {w:T} (h:∀ e ∈ t9L,e.1.isSuffixOf w = false):dblS w = w:=by
 have n:∀ {x:String} {k:Nat},(cps x).length = k->0 < k->(∃ e ∈ t9L,e.1 = cps x)->¬ slice w (some (-(k:Int))) none = cps x:=fun h1 h2 ⟨e,he,ee⟩ z=>by
  have:=(slice_back h1 h2).mp z
  rw [<- ee,h e he] at this; cases this
 have n4:¬ slice w (some (-4)) none = cps "eill":=n (x:="eill") (k:=4) (by decide +kernel) (by decide) ⟨_,.tail _ (.head _),rfl⟩
 have n1:¬ slice w (some (-3)) none = cps "ell":=n (x:="ell") (k:=3) (by decide +kernel) (by decide) ⟨_,.head _,rfl⟩
 have n2:¬ slice w (some (-3)) none = cps "enn":=n (x:="enn") (k:=3) (by decide +kernel) (by decide) ⟨_,.tail _ (.tail _ (.head _)),rfl⟩
 have n3:¬ slice w (some (-3)) none = cps "onn":=n (x:="onn") (k:=3) (by decide +kernel) (by decide) ⟨_,.tail _ (.tail _ (.tail _ (.head _))),rfl⟩
 have n5:¬ slice w (some (-3)) none = cps "ett":=n (x:="ett") (k:=3) (by decide +kernel) (by decide) ⟨_,.tail _ (.tail _ (.tail _ (.tail _ (.head _)))),rfl⟩
 unfold dblS
 rw [if_neg n4,if_neg]
 rw [List.contains_iff_mem]
 simp only [List.mem_cons,List.not_mem_nil,or_false]
 rintro (z | z | z | z)
 ·exact n1 z
 ·exact n2 z
 ·exact n3 z
 ·exact n5 z
theorem dbl_yes {w:T} {e:T × Int × Int} (he:e ∈ t9L) (h:e.1.isSuffixOf w = true):dblS w = chop w:=by
 have y:∀ {x:String} {k:Nat},(cps x).length = k->0 < k->e.1 = cps x->slice w (some (-(k:Int))) none = cps x:=fun h1 h2 ee=>(slice_back h1 h2).mpr (by rw [<- ee]; exact h)
 have c3:∀ {x:String},(cps x).length = 3->e.1 = cps x->[cps "ell",cps "enn",cps "onn",cps "ett"].contains (cps x) = true->dblS w = chop w:=fun h1 ee z=>by
  unfold dblS
  rw [show slice w (some (-3)) none = cps _ from y h1 (by decide) ee,if_pos z]
  exact ite_self _
 simp only [t9L,List.mem_cons,List.not_mem_nil,or_false] at he
 rcases he with rfl | rfl | rfl | rfl | rfl
 ·exact c3 (x:="ell") (by decide +kernel) rfl (by decide +kernel)
 ·have z:slice w (some (-4)) none = cps "eill":=y (x:="eill") (k:=4) (by decide +kernel) (by decide) rfl
  unfold dblS; rw [if_pos z]
 ·exact c3 (x:="enn") (by decide +kernel) rfl (by decide +kernel)
 ·exact c3 (x:="onn") (by decide +kernel) rfl (by decide +kernel)
 ·exact c3 (x:="ett") (by decide +kernel) rfl (by decide +kernel)
theorem t9_res:∀ e ∈ t9L,e.2.2 = -1 /\ 0 < e.1.length:=fun e he=>by
 have h:t9L.all (fun e=>decide (e.2.2 = -1) && decide (0 < e.1.length)) = true:=by decide +kernel
 have:=List.all_eq_true.mp h e he
 rw [Bool.and_eq_true,decide_eq_true_eq,decide_eq_true_eq] at this
 exact this
section
variable {C:Tbl} {p2 p1 pV:Option Int} {bra ket:Int} {w:T} {Q:QE} {n:Nat}
theorem un_double_W (hC:C.loose = true) (hT:C.tab = tabV) (hw:w.length <= 900) (h:∀ (v:Bool) c b k,Q (.bool v) ⟨dblS w,c,(dblS w).length,0,b,k,p2,p1,pV⟩):WM (nT (nT (nT (nT C)))) .un_double [] ⟨w,w.length,w.length,0,bra,ket,p2,p1,pV⟩ Q:=by
 have hlim:lim = 100000:=rfl
 refine WM.run rfl ?_
 conv=>whnf
 rw [show (nT (nT (nT C))).tab .a9 = .list (t9L.map amV) by rw [show (nT (nT (nT C))).tab = tabV from hT]; rfl]
 refine amongB_W (C:=nT (nT C)) (a:=[]) (b:=w) (suf:=[]) hC ok9 (by simp) (by simp) rfl (fun h0=>?_) (fun p e hb=>?_)
 ·rw [dbl_no h0] at h
  refine Br.tr ?_
  exact h _ _ _ _
 ·obtain ⟨r1,r2⟩:=t9_res e hb.mem
  rw [dbl_yes hb.mem (by rw [hb.eq,List.isSuffixOf_iff_suffix]; exact ⟨p,rfl⟩)] at h
  rw [r1]
  have hw0:0 < w.length:=by rw [hb.eq,List.length_append]; lia
  obtain ⟨q,c,rfl⟩:=snoc w fun z=>by rw [z] at hw0; cases hw0
  rw [chop_snoc] at h
  rw [List.length_append,List.length_singleton] at hw hw0
  clear hb r1 r2
  refine Br.fa ?_
  refine Br.no (by rw [List.length_append,List.length_singleton]; lia) ?_
  refine del_L (C:=C) (a:=q) (b:=[c]) (c:=[]) (by simp) (by lia) (by rw [List.length_append,List.length_singleton]; lia) (by lia) (by rw [List.append_nil]) (Nat.le_refl 1) (by rw [List.append_nil,List.length_append,List.length_singleton]; lia) ?_
  rw [List.append_nil]
  exact h _ _ _ _
noncomputable def accBody:ISs:=ss [.try_ (ss [.ite (.not_ (.callM .out_grouping_b 0 (es [(.tab .gv)]))) (ss [.raise .l0]) (ss []),.augL 1 .Sub (cI 1),.cont]) .l0,.brk]
theorem acc_loop {d:T} {lm:Int} {Q:QS} (hT:C.tab = tabV):∀ (m j:Nat),d.length - j < m->j <= d.length ->
 Q .next [some .self,some (.int (1 - ((j + runN (fun c=>isV c == false) (d.reverse.drop j):Nat):Int)))] ⟨d,((d.length - (j + runN (fun c=>isV c == false) (d.reverse.drop j)):Nat):Int),lm,0,bra,ket,p2,p1,pV⟩ ->
 WW (wpE (nT C) (.con (.bool true))) (wpSs (nT C) n accBody) m [some .self,some (.int (1 - (j:Int)))] ⟨d,((d.length - j:Nat):Int),lm,0,bra,ket,p2,p1,pV⟩ Q
 | 0,j,h,_,_=>by lia
 | m + 1,j,hm,hj,h=>by
  have ih:=acc_loop (Q:=Q) (d:=d) (lm:=lm) hT m (j + 1)
  refine WW.step ?_
  refine Br.tr ?_
  conv=>whnf
  rw [show (nT C).tab .gv = .set gvL by rw [show (nT C).tab = tabV from hT]; rfl]
  rcases Nat.lt_or_ge j d.length with h1 | h1
  ·obtain ⟨c,e,e2⟩:=back_at h1
   rw [runN_at e2] at h
   cases h2:gvL.contains [c] with
   | true =>
    refine outB_n (by lia) e h2 ?_
    rw [if_neg (by rw [show isV c = true from h2]; exact fT)] at h
    refine Br.tr ?_
    exact h
   | false =>
    refine outB_y (by lia) e h2 ?_
    rw [if_pos (by rw [show isV c = false from h2]; rfl),show j + (runN (fun c=>isV c == false) (d.reverse.drop (j + 1)) + 1) = j + 1 + runN (fun c=>isV c == false) (d.reverse.drop (j + 1)) by lia] at h
    have:=ih (by lia) (by lia) h
    rw [show ((d.length - (j + 1):Nat):Int) = ((d.length - j:Nat):Int) - 1 by lia,show (1:Int) - ((j + 1:Nat):Int) = 1 - (j:Int) - 1 by lia] at this
    refine Br.fa ?_
    exact this.ex
  ·rw [List.drop_of_length_le (by rw [List.length_reverse]; omega)] at h
   refine outB_nil (by lia) ?_
   refine Br.tr ?_
   exact h
theorem un_accent_W (hT:C.tab = tabV) (hw:w.length <= 900) (h:∀ (v:Bool) c b k,Q (.bool v) ⟨accS w,c,(accS w).length,0,b,k,p2,p1,pV⟩):WM (nT (nT (nT C))) .un_accent [] ⟨w,w.length,w.length,0,bra,ket,p2,p1,pV⟩ Q:=by
 have hlim:lim = 100000:=rfl
 have le:(cps "e").length = 1:=by decide +kernel
 have hrb:runB w <= w.length:=by have:=runN_le (fun c=>isV c == false) w.reverse; rw [List.length_reverse] at this; exact this
 unfold accS at h
 refine WM.run rfl ?_
 refine (show WW (wpE (nT (nT C)) (.con (.bool true))) (wpSs (nT (nT C)) (n0 + 1) accBody) (n0 + 1) [some .self,some (.int (1 - ((0:Nat):Int)))] ⟨w,((w.length - 0:Nat):Int),w.length,0,bra,ket,p2,p1,pV⟩ _ from acc_loop (C:=nT C) (d:=w) hT (n0 + 1) 0 (by show w.length - 0 < 1000; lia) (Nat.zero_le _) ?_)
 rw [List.drop_zero,Nat.zero_add]
 have hr:runN (fun c=>isV c == false) w.reverse = runB w:=rfl
 rw [hr]
 clear hr
 generalize runB w = k at *
 obtain ⟨j,hj⟩:∃ j:Nat,w.length - k = j:=⟨_,rfl⟩
 have hk:(k:Int) = w.length - j:=by lia
 rw [hj] at h ⊢
 have hjl:j <= w.length:=by lia
 rw [hk]
 clear hk hj hrb
 have h:∀ (x:T),accG w j = x->∀ (v:Bool) c b k,Q (.bool v) ⟨x,c,x.length,0,b,k,p2,p1,pV⟩:=fun x e=>by rw [<- e]; exact h
 unfold accG at h
 refine Br.dec (fun h1=>?_) (fun h1=>?_)
 ·have h:=h w (by rw [if_neg (show ¬ (j:Int) < (w.length:Int) by lia)]; exact ite_self _)
  exact h _ _ _ _
 ·rw [if_pos (show (j:Int) < (w.length:Int) by lia)] at h
  refine WW.step ?_
  refine Br.tr ?_
  refine Br.dec (fun h2=>?_) (fun h2=>?_)
  ·have h:=h w (by rw [if_neg (by lia)])
   refine Br.tr ?_
   refine Br.yes h2 ?_
   refine Br.tr ?_
   exact h _ _ _ _
  ·rw [if_pos (by lia)] at h
   have e:=getD_at (d:=w) (k:=j) (by lia) (by lia)
   have hsp:w = w.take (j - 1) ++ [w.getD (j - 1) 0] ++ w.drop j:=by
    have e1:=(List.take_append_drop (j - 1) w).symm
    rw [pyAt_eq _ _ (j - 1) (by lia)] at e
    obtain ⟨hlt,e⟩:=List.getElem?_eq_some_iff.mp e
    rw [List.drop_eq_getElem_cons hlt,e,show j - 1 + 1 = j by lia] at e1
    rw [List.append_assoc]; exact e1
   have hlen:(w.take (j - 1)).length = j - 1:=by rw [List.length_take]; lia
   have hld:(w.drop j).length = w.length - j:=List.length_drop
   generalize w.getD (j - 1) 0 = c at *
   generalize w.take (j - 1) = a at *
   generalize w.drop j = b at *
   have yes:[cps "é",cps "è"].contains [c] = true->∀ {X:QE},((∀ (v:Bool) c k l,Q (.bool v) ⟨a ++ cps "e" ++ b,c,(a ++ cps "e" ++ b).length,0,k,l,p2,p1,pV⟩)->X .none ⟨a ++ cps "e" ++ b,(j:Int) - 1,(a ++ cps "e" ++ b).length,0,(j:Int) - 1,(j:Int) - 1 + (cps "e").length,p2,p1,pV⟩) ->
    WM (nT (nT C)) .slice_from [.str (cps "e")] ⟨w,(j:Int) - 1,w.length,0,(j:Int) - 1,(j:Int),p2,p1,pV⟩ X:=fun hc X q =>
    from_L (a:=a) (b:=[c]) (c:=b) hsp (Int.le_refl _) (by lia) (by rw [List.length_append,List.length_singleton]; lia) (by rw [<- hsp]) (Nat.le_refl 1) (by rw [List.length_append,List.length_append]; omega) (q (h _ (by rw [if_pos hc])))
   refine Idx.of e ?_
   refine Br.not (Br.dec (fun h3=>?_) (fun h3=>?_))
   ·refine yes (by rw [h3]; decide +kernel) fun h=>?_
    exact h _ _ _ _
   ·conv=>whnf
    refine Br.no h2 ?_
    refine Idx.of e ?_
    refine Br.not (Br.dec (fun h5=>?_) (fun h5=>?_))
    ·refine yes (by rw [h5]; decide +kernel) fun h=>?_
     exact h _ _ _ _
    ·refine h w (by rw [if_neg]; rw [List.contains_iff_mem]; simp only [List.mem_cons,List.not_mem_nil,or_false]; exact fun z=>z.elim h3 h5) _ _ _ _
end
noncomputable def rep1 (a:Nat) (y:T) (l:T):T:=l.flatMap fun x=>if x = a then y else [x]
theorem repl_one {a:Nat} {y:T}:∀ (n:Nat) (l:T),l.length <= n->replAll [a] y n l = rep1 a y l
 | 0,l,h=>by have:l = []:=List.length_eq_zero_iff.mp (by lia); subst this; rfl
 | n + 1,[],h=>rfl
 | n + 1,x :: r,h=>by
  have ih:=repl_one (a:=a) (y:=y) n r (Nat.le_of_succ_le_succ h)
  show (if [a].isPrefixOf (x :: r) then y ++ replAll [a] y n r else x :: replAll [a] y n r) = (if x = a then y else [x]) ++ rep1 a y r
  rw [ih]
  by_cases hx:x = a
  ·rw [if_pos hx,if_pos (by rw [hx]; simp [List.isPrefixOf])]
  ·rw [if_neg hx,if_neg (by simp [List.isPrefixOf]; exact fun z=>hx z.symm)]; rfl
noncomputable def rep2 (a b:Nat) (y:T):T->T
 | []=>[]
 | [x]=>[x]
 | x :: x2 :: r=>if x = a /\ x2 = b then y ++ rep2 a b y r else x :: rep2 a b y (x2 :: r)
theorem repl_two {a b:Nat} {y:T}:∀ (n:Nat) (l:T),l.length <= n->replAll [a,b] y n l = rep2 a b y l
 | 0,l,h=>by have:l = []:=List.length_eq_zero_iff.mp (by lia); subst this; rfl
 | n + 1,[],h=>rfl
 | n + 1,[x],h=>by
  show (if [a,b].isPrefixOf [x] then y ++ replAll [a,b] y n [] else x :: replAll [a,b] y n []) = [x]
  rw [if_neg (by simp [List.isPrefixOf]),repl_two n [] (Nat.zero_le _)]
  rfl
 | n + 1,x :: x2 :: r,h=>by
  have i1:=repl_two (a:=a) (b:=b) (y:=y) n (x2 :: r) (Nat.le_of_succ_le_succ h)
  have i2:=repl_two (a:=a) (b:=b) (y:=y) n r (Nat.le_of_succ_le (Nat.le_of_succ_le_succ h))
  show (if [a,b].isPrefixOf (x :: x2 :: r) then y ++ replAll [a,b] y n r else x :: replAll [a,b] y n (x2 :: r)) = (if x = a /\ x2 = b then y ++ rep2 a b y r else x :: rep2 a b y (x2 :: r))
  rw [i1,i2]
  by_cases hx:x = a /\ x2 = b
  ·rw [if_pos hx,if_pos (by rw [hx.1,hx.2]; simp [List.isPrefixOf])]
  ·rw [if_neg hx,if_neg (by simp [List.isPrefixOf]; exact fun z z2=>hx ⟨z.symm,z2.symm⟩)]
noncomputable def one (x:Nat):T:=if x = 72 then [] else if x = 73 then [105] else if x = 85 then [117] else if x = 89 then [121] else [x]
noncomputable def post:T->T
 | []=>[]
 | [x]=>one x
 | x :: y :: r=>if x = 72 then (if y = 101 then 235 :: post r else if y = 105 then 239 :: post r else post (y :: r)) else one x ++ post (y :: r)
noncomputable def oneR (l:T):T:=rep1 89 [121] (rep1 85 [117] (rep1 73 [105] (rep1 72 [] l)))
noncomputable def twoR (l:T):T:=rep2 72 105 [239] (rep2 72 101 [235] l)
theorem rep1_app (a:Nat) (y l m:T):rep1 a y (l ++ m) = rep1 a y l ++ rep1 a y m:=List.flatMap_append
theorem rep1_one (a:Nat) (y:T) (x:Nat):rep1 a y [x] = if x = a then y else [x]:=List.append_nil _
theorem oneR_one (x:Nat):oneR [x] = one x:=by
 have e:∀ {a:Nat} {y:T} {x:Nat},x = a->rep1 a y [x] = y:=fun h=>by rw [rep1_one,if_pos h]
 have n:∀ {a:Nat} {y:T} {x:Nat},¬ x = a->rep1 a y [x] = [x]:=fun h=>by rw [rep1_one,if_neg h]
 unfold oneR one
 by_cases h1:x = 72
 ·rw [if_pos h1,e h1]; rfl
 ·rw [if_neg h1,n h1]
  by_cases h2:x = 73
  ·rw [if_pos h2,e h2]; rfl
  ·rw [if_neg h2,n h2]
   by_cases h3:x = 85
   ·rw [if_pos h3,e h3]; rfl
   ·rw [if_neg h3,n h3]
    by_cases h4:x = 89
    ·rw [if_pos h4,e h4]
    ·rw [if_neg h4,n h4]
theorem oneR_cons (x:Nat) (l:T):oneR (x :: l) = one x ++ oneR l:=by
 rw [<- oneR_one]
 show oneR ([x] ++ l) = _
 unfold oneR
 rw [rep1_app,rep1_app,rep1_app,rep1_app]
theorem rep2_ne {a b x:Nat} {y:T} (h:x ≠ a):∀ X:T,rep2 a b y (x :: X) = x :: rep2 a b y X
 | []=>rfl
 | x2 :: r=>if_neg fun z=>h z.1
theorem rep2_nb {a b x:Nat} {y:T}:∀ X:T,X.head? ≠ some b->rep2 a b y (x :: X) = x :: rep2 a b y X
 | [],_=>rfl
 | x2 :: r,h=>if_neg fun z=>h (by rw [z.2]; rfl)
theorem rep2_eq {a b:Nat} {y:T} (r:T):rep2 a b y (a :: b :: r) = y ++ rep2 a b y r:=if_pos ⟨rfl,rfl⟩
theorem rep2_head:∀ {X:T},X.head? ≠ some 105->(rep2 72 101 [235] X).head? ≠ some 105
 | [],h=>h
 | [x],h=>h
 | x :: x2 :: r,h=>by
  show (if x = 72 /\ x2 = 101 then [235] ++ rep2 72 101 [235] r else x :: rep2 72 101 [235] (x2 :: r)).head? ≠ some 105
  split
  ·simp
  ·exact h
theorem post_eq:∀ l:T,oneR (twoR l) = post l
 | []=>rfl
 | [x]=>oneR_one x
 | x :: y :: r=>by
  have i1:=post_eq r
  have i2:=post_eq (y :: r)
  unfold twoR at i1 i2 ⊢
  show _ = if x = 72 then (if y = 101 then 235 :: post r else if y = 105 then 239 :: post r else post (y :: r)) else one x ++ post (y :: r)
  by_cases h1:x = 72
  ·subst h1
   rw [if_pos rfl]
   by_cases h2:y = 101
   ·subst h2
    rw [if_pos rfl,rep2_eq]
    show oneR (rep2 72 105 [239] (235 :: rep2 72 101 [235] r)) = _
    rw [rep2_ne (by decide),oneR_cons,i1]; rfl
   ·rw [if_neg h2]
    by_cases h3:y = 105
    ·subst h3
     rw [if_pos rfl,rep2_nb (a:=72) (b:=101) (105 :: r) (by simp),rep2_ne (a:=72) (b:=101) (x:=105) (by decide),rep2_eq]
     show oneR (239 :: rep2 72 105 [239] (rep2 72 101 [235] r)) = _
     rw [oneR_cons,i1]; rfl
    ·have n1:(y :: r).head? ≠ some 101:=fun z=>h2 (by injection z)
     have n2:(y :: r).head? ≠ some 105:=fun z=>h3 (by injection z)
     rw [if_neg h3,rep2_nb (a:=72) (b:=101) _ n1,rep2_nb (a:=72) (b:=105) _ (rep2_head n2),oneR_cons,i2]; rfl
  ·rw [if_neg h1,rep2_ne h1,rep2_ne h1,oneR_cons,i2]
theorem postS_eq (d:T):postS d = post d:=by
 rw [<- post_eq]
 unfold postS oneR twoR rep
 rw [show cps "He" = [72,101] by decide +kernel,show cps "Hi" = [72,105] by decide +kernel,show cps "H" = [72] by decide +kernel,show cps "I" = [73] by decide +kernel,show cps "U" = [85] by decide +kernel,show cps "Y" = [89] by decide +kernel,
  show cps "ë" = [235] by decide +kernel,show cps "ï" = [239] by decide +kernel,show cps "" = [] by decide +kernel,show cps "i" = [105] by decide +kernel,show cps "u" = [117] by decide +kernel,show cps "y" = [121] by decide +kernel]
 rw [repl_two _ d (Nat.le_refl _),repl_two _ (rep2 72 101 [235] d) (Nat.le_refl _),repl_one _ _ (Nat.le_refl _),repl_one _ _ (Nat.le_refl _),repl_one _ _ (Nat.le_refl _),repl_one _ _ (Nat.le_refl _)]
theorem t1_lit:t1L = [([],-1,7),([72],0,6),([72,101],1,4),([72,105],1,5),([73],0,1),([85],0,2),([89],0,3)]:=by decide +kernel
noncomputable def outP (k:Int):T:=if k = 1 then cps "i" else if k = 2 then cps "u" else if k = 3 then cps "y" else if k = 4 then cps "ë" else if k = 5 then cps "ï" else cps ""
theorem post_one {x:Nat} (h:x ≠ 72):∀ r:T,post (x :: r) = one x ++ post r
 | []=>(List.append_nil _).symm
 | y :: r=>if_neg h
def ScanP (suf r x:T) (k:Int):Prop:=(k = 7 /\ x = [] /\ ∀ c t,suf = c :: t->post suf = c :: post t) \/ (1 <= k /\ k <= 6 /\ 0 < x.length /\ x.length <= 2 /\ post suf = outP k ++ post r)
theorem scan_d {suf r y:T} {x:Nat} {k:Int} (h1:1 <= k /\ k <= 6) (h3:outP k = y) (h4:one x = y) (h5:x ≠ 72) (h6:suf = x :: r):ScanP suf r [x] k :=
 .inr ⟨h1.1,h1.2,Nat.le_refl 1,Nat.le_succ 1,by rw [h6,h3,<- h4]; exact post_one h5 r⟩
theorem scan_7 {suf r:T} (h:∀ x,x = 72 \/ x = 73 \/ x = 85 \/ x = 89->∀ t,suf ≠ x :: t):ScanP suf r [] 7:=by
 refine .inl ⟨rfl,rfl,fun c t e=>?_⟩
 have nc:∀ x,x = 72 \/ x = 73 \/ x = 85 \/ x = 89->c ≠ x:=fun x hx hc=>h x hx t (by rw [e,hc])
 have n1:=nc 72 (.inl rfl)
 rw [e,post_one n1]
 unfold one
 rw [if_neg n1,if_neg (nc 73 (.inr (.inl rfl))),if_neg (nc 85 (.inr (.inr (.inl rfl)))),if_neg (nc 89 (.inr (.inr (.inr rfl))))]; rfl
theorem scan_6 {suf r:T} (hs:suf = 72 :: r) (n1:∀ t,suf ≠ 72 :: 101 :: t) (n2:∀ t,suf ≠ 72 :: 105 :: t):ScanP suf r [72] 6:=by
 refine .inr ⟨by decide,by decide,Nat.le_refl 1,Nat.le_succ 1,?_⟩
 rw [hs] at n1 n2 ⊢
 cases r with
 | nil=>rfl
 | cons y r =>
  show (if 72 = 72 then (if y = 101 then 235 :: post r else if y = 105 then 239 :: post r else post (y :: r)) else one 72 ++ post (y :: r)) = post (y :: r)
  rw [if_pos rfl,if_neg fun z=>n1 r (by rw [z]),if_neg fun z=>n2 r (by rw [z])]
theorem scan_ok {suf r:T} {e:T × Int × Int} (hs:suf = e.1 ++ r) (he:e ∈ t1L) (hm:∀ e' ∈ t1L,e'.1.isPrefixOf suf = true->e'.1.length <= e.1.length):ScanP suf r e.1 e.2.2:=by
 rw [t1_lit] at he hm
 have no:∀ e' ∈ [(([]:T),(-1:Int),(7:Int)),([72],0,6),([72,101],1,4),([72,105],1,5),([73],0,1),([85],0,2),([89],0,3)],e.1.length < e'.1.length->∀ t,suf ≠ e'.1 ++ t:=fun e' h1 h2 t h3=>Nat.lt_irrefl _ (Nat.lt_of_lt_of_le h2 (hm _ h1 (List.isPrefixOf_iff_prefix.mpr ⟨t,h3.symm⟩)))
 clear hm
 have d:=@scan_d suf r
 rcases List.mem_cons.mp he with rfl | he
 ·refine scan_7 fun x hx t=>?_
  rcases hx with rfl | rfl | rfl | rfl
  ·exact no ([72],0,6) (.tail _ (.head _)) Nat.zero_lt_one t
  ·exact no ([73],0,1) (.tail _ (.tail _ (.tail _ (.tail _ (.head _))))) Nat.zero_lt_one t
  ·exact no ([85],0,2) (.tail _ (.tail _ (.tail _ (.tail _ (.tail _ (.head _)))))) Nat.zero_lt_one t
  ·exact no ([89],0,3) (.tail _ (.tail _ (.tail _ (.tail _ (.tail _ (.tail _ (.head _))))))) Nat.zero_lt_one t
 rcases List.mem_cons.mp he with rfl | he
 ·exact scan_6 hs (no ([72,101],1,4) (.tail _ (.tail _ (.head _))) (Nat.lt_succ_self 1)) (no ([72,105],1,5) (.tail _ (.tail _ (.tail _ (.head _)))) (Nat.lt_succ_self 1))
 clear no
 rcases List.mem_cons.mp he with rfl | he
 ·exact .inr ⟨by decide,by decide,Nat.le_succ 1,Nat.le_refl 2,by rw [hs,show outP 4 = [235] by decide +kernel]; rfl⟩
 rcases List.mem_cons.mp he with rfl | he
 ·exact .inr ⟨by decide,by decide,Nat.le_succ 1,Nat.le_refl 2,by rw [hs,show outP 5 = [239] by decide +kernel]; rfl⟩
 rcases List.mem_cons.mp he with rfl | he
 ·exact d (y:=[105]) (by decide) (by decide +kernel) (by decide +kernel) (by decide) hs
 rcases List.mem_cons.mp he with rfl | he
 ·exact d (y:=[117]) (by decide) (by decide +kernel) (by decide +kernel) (by decide) hs
 rcases List.mem_cons.mp he with rfl | he
 ·exact d (y:=[121]) (by decide) (by decide +kernel) (by decide +kernel) (by decide) hs
 ·cases he
theorem outP_len (k:Int):(outP k).length <= 1:=by unfold outP; (repeat' split) <;> decide +kernel
section
variable {C:Tbl} {p2 p1 pV:Option Int} {n:Nat}
noncomputable def postBody:ISs:=(ss [.asgn 1 (f0 .csr),.try_ (ss [.asgnF 0 .bra (f0 .csr),.asgn 2 (.callM .find_among 0 (es [(.tab .a1)])),.asgnF 0 .ket (f0 .csr),.ite (.cmp .Eq (.loc 2) (cI 1)) (ss [sl "i"]) (ss [.ite (.cmp .Eq (.loc 2) (cI 2)) (ss [sl "u"]) (ss [.ite (.cmp .Eq (.loc 2) (cI 3)) (ss [sl "y"]) (ss [.ite (.cmp .Eq (.loc 2) (cI 4)) (ss [sl "ë"]) (ss [.ite (.cmp .Eq (.loc 2) (cI 5)) (ss [sl "ï"]) (ss [.ite (.cmp .Eq (.loc 2) (cI 6)) (ss [sd]) (ss [.ite (.cmp .GtE (f0 .csr) (f0 .lim)) (ss [.raise .l0]) (ss []),.augF 0 .csr .Add (cI 1)])])])])])]),.cont]) .l0,.asgnF 0 .csr (.loc 1),.brk])
theorem slice_W {cur p x r y:T} {bra ket csr lm lb:Int} {Q:QE} (hcur:cur = p ++ x ++ r) (hc:csr = (p ++ x).length) (hb:bra = p.length) (hk:ket = csr) (hl:lm = cur.length) (hlen:cur.length <= 900) (hy:y.length <= 1) (h:Q .none ⟨p ++ y ++ r,(p ++ y).length,(p ++ y ++ r).length,lb,bra,bra + y.length,p2,p1,pV⟩) :
 WM (nT (nT C)) .slice_from [.str y] ⟨cur,csr,lm,lb,bra,ket,p2,p1,pV⟩ Q:=by
 have hlim:lim = 100000:=rfl
 have e1:cur.length = p.length + x.length + r.length:=by rw [hcur,List.length_append,List.length_append]
 have e2:(p ++ x).length = p.length + x.length:=List.length_append
 have e3:(p ++ y).length = p.length + y.length:=List.length_append
 have e4:(p ++ y ++ r).length = p.length + y.length + r.length:=by rw [List.length_append,List.length_append]
 refine from_R hcur (by lia) hb (by lia) (by rw [<- hcur]; exact hl) (by lia) ?_
 rw [show csr + ((y.length:Int) - x.length) = (p ++ y).length by lia]
 exact h
theorem post_loop {Q:QS} (hC:C.loose = true) (hT:C.tab = tabV) (w:T) (hQ:∀ l c b k,Q .next l ⟨w,c,w.length,0,b,k,p2,p1,pV⟩):∀ (m:Nat) (p suf:T) (a b:Option V) (bra ket:Int),suf.length < m->(p ++ suf).length <= 900->p ++ post suf = w ->
 WW (wpE (nT (nT (nT C))) (.con (.bool true))) (wpSs (nT (nT (nT C))) n postBody) m [some .self,a,b] ⟨p ++ suf,p.length,(p ++ suf).length,0,bra,ket,p2,p1,pV⟩ Q
 | 0,p,suf,a,b,bra,ket,hm,_,_=>by lia
 | m + 1,p,suf,a,b,bra,ket,hm,hl,hw=>by
  have ih:=post_loop hC hT w hQ m
  refine WW.step ?_
  refine Br.tr ?_
  conv=>whnf
  rw [show (nT (nT (nT C))).tab .a1 = .list (t1L.map amV) by rw [show (nT (nT (nT C))).tab = tabV from hT]; rfl]
  refine amongF_W (C:=nT (nT C)) hC ok1 rfl rfl rfl (fun h0=>?_) (fun e r hs he hm2=>?_)
  ·have:=h0 ([],-1,7) (by rw [t1_lit]; exact .head _)
   simp [List.isPrefixOf] at this
  have hx:=scan_ok hs he hm2
  obtain ⟨x,i,k⟩:=e
  simp only at hs hx ⊢
  clear he hm2
  rcases hx with ⟨rfl,rfl,h7⟩ | ⟨k1,k6,x0,x2,hp⟩
  ·clear hs
   rw [show (p.length:Int) + (([]:T).length:Nat) = p.length from Int.add_zero _]
   refine Br.no (by decide) ?_
   refine Br.no (by decide) ?_
   refine Br.no (by decide) ?_
   refine Br.no (by decide) ?_
   refine Br.no (by decide) ?_
   refine Br.no (by decide) ?_
   cases suf with
   | nil =>
    have hw:p = w:=by rw [<- hw]; exact (List.append_nil _).symm
    rw [List.append_nil,hw]
    refine Br.yes (Int.le_refl _) ?_
    exact hQ _ _ _ _
   | cons c r =>
    have hpr:p ++ [c] ++ r = p ++ c :: r:=List.append_assoc ..
    have hpl:((p ++ [c]).length:Int) = p.length + 1:=by rw [List.length_append]; rfl
    refine Br.no (by rw [List.length_append,List.length_cons]; lia) ?_
    have:=ih (p ++ [c]) r (some (.int p.length)) (some (.int 7)) p.length p.length (by rw [List.length_cons] at hm; lia) (by rw [hpr]; exact hl) (by rw [<- hw,h7 c r rfl]; exact List.append_assoc ..)
    rw [hpr,hpl] at this
    exact this.ex
  ·have hcur:p ++ suf = p ++ x ++ r:=by rw [hs,List.append_assoc]
   have hx:(p.length:Int) + (x.length:Nat) = (p ++ x).length:=by rw [List.length_append]; rfl
   have hy:=outP_len k
   have hm3:r.length < m:=by rw [hs,List.length_append] at hm; lia
   have hl3:(p ++ outP k ++ r).length <= 900:=by rw [hcur] at hl; simp only [List.length_append] at hl ⊢; lia
   rw [hp,<- List.append_assoc] at hw
   have fin:=fun a b bra ket=>(ih (p ++ outP k) r a b bra ket hm3 hl3 hw).ex
   have go:∀ {C':Tbl} {y:T} {X:QE},outP k = y->((∀ a b bra ket,wW (wpE (nT (nT (nT C))) (.con (.bool true))) (wpSs (nT (nT (nT C))) n postBody) m [some .self,a,b] ⟨p ++ y ++ r,(p ++ y).length,(p ++ y ++ r).length,0,bra,ket,p2,p1,pV⟩ Q) ->
    X .none ⟨p ++ y ++ r,(p ++ y).length,(p ++ y ++ r).length,0,p.length,p.length + y.length,p2,p1,pV⟩)->WM (nT (nT C')) .slice_from [.str y] ⟨p ++ suf,(p.length:Int) + (x.length:Nat),(p ++ suf).length,0,p.length,(p.length:Int) + (x.length:Nat),p2,p1,pV⟩ X:=fun {C' y X} e q=>by
    subst e
    exact slice_W (C:=C') hcur hx rfl rfl rfl hl hy (q fin)
   clear ih hcur hx hy hm3 hl3 hw fin hs hp hl hm x0 x2
   unfold outP at go
   refine Br.dec (fun c=>?_) (fun c1=>?_)
   ·refine go (by rw [if_pos c]) fun h=>?_
    exact h _ _ _ _
   rw [if_neg c1] at go
   refine Br.dec (fun c=>?_) (fun c2=>?_)
   ·refine go (by rw [if_pos c]) fun h=>?_
    exact h _ _ _ _
   rw [if_neg c2] at go
   refine Br.dec (fun c=>?_) (fun c3=>?_)
   ·refine go (by rw [if_pos c]) fun h=>?_
    exact h _ _ _ _
   rw [if_neg c3] at go
   refine Br.dec (fun c=>?_) (fun c4=>?_)
   ·refine go (by rw [if_pos c]) fun h=>?_
    exact h _ _ _ _
   rw [if_neg c4] at go
   refine Br.dec (fun c=>?_) (fun c5=>?_)
   ·refine go (by rw [if_pos c]) fun h=>?_
    exact h _ _ _ _
   rw [if_neg c5] at go
   refine Br.yes (by lia) ?_
   refine WM.run rfl ?_
   refine go rfl fun h=>?_
   exact h _ _ _ _
theorem postlude_W {bra ket:Int} {w:T} {Q:QE} (hC:C.loose = true) (hT:C.tab = tabV) (hw:w.length <= 900) (h:∀ (v:Bool) c b k,Q (.bool v) ⟨postS w,c,(postS w).length,0,b,k,p2,p1,pV⟩):WM (nT (nT (nT (nT C)))) .postlude [] ⟨w,0,w.length,0,bra,ket,p2,p1,pV⟩ Q:=by
 rw [postS_eq] at h
 refine WM.run rfl ?_
 refine (show WW (wpE (nT (nT (nT C))) (.con (.bool true))) (wpSs (nT (nT (nT C))) (n0 + 1) postBody) (n0 + 1) [some .self,none,none] ⟨[] ++ w,(([]:T).length:Nat),(([] ++ w:T).length:Nat),0,bra,ket,p2,p1,pV⟩ _ from post_loop hC hT (post w) (fun l c b k=>?_) (n0 + 1) [] w none none bra ket (by show w.length < 1000; lia) hw rfl)
 exact h _ _ _ _
end
theorem cqu:cps "qu" = [113,117]:=by decide +kernel
theorem capo:cps "'" = [39]:=by decide +kernel
theorem eli_q:eliL.contains [113] = false:=by decide +kernel
theorem three {w:T} (h:2 < w.length):∃ a b c t,w = a :: b :: c :: t:=by
 match w,h with
 | a :: b :: c :: t,_=>exact ⟨a,b,c,t,rfl⟩
theorem elide_keep {w:T} (h1:∀ a c t,w = a :: 39 :: c :: t->eliL.contains [a] = false) (h2:∀ c t,w ≠ 113 :: 117 :: 39 :: c :: t):elideS w = w:=by
 unfold elideS
 rw [if_neg]
 intro h
 unfold elideB at h
 rw [Bool.and_eq_true,Bool.and_eq_true,Bool.or_eq_true,decide_eq_true_eq,decide_eq_true_eq,decide_eq_true_eq,capo] at h
 obtain ⟨o,q,l⟩:=h
 by_cases m:slice w none (some 2) = cps "qu"
 ·have hm:manyS w = 2:=if_pos m
  rw [hm] at q l
  obtain ⟨a,b,c,t,rfl⟩:=three (w:=w) (by lia)
  rw [cqu] at m
  have m:[a,b] = [113,117]:=(slice_tn _ 2).symm.trans m
  have q:[c] = [39]:=(slice_nn (a :: b :: c :: t) 2 3).symm.trans q
  injection m with e1 e2
  injection e2 with e2
  injection q with e3
  cases t with
  | nil=>simp at l
  | cons d t=>exact h2 d t (by rw [e1,e2,e3])
 ·have hm:manyS w = 1:=if_neg m
  rw [hm] at o q l
  obtain ⟨a,b,c,t,rfl⟩:=three (w:=w) (by lia)
  have q:[b] = [39]:=(slice_nn (a :: b :: c :: t) 1 2).symm.trans q
  injection q with e3
  rcases o with o | o
  ·exact absurd o (by decide)
  ·have o:eliL.contains [a] = true:=(congrArg eliL.contains (slice_tn (a :: b :: c :: t) 1)).symm.trans o
   rw [h1 a c t (by rw [e3])] at o; cases o
theorem elide_one {a c:Nat} {t:T} (h:eliL.contains [a] = true):elideS (a :: 39 :: c :: t) = c :: t:=by
 have n:¬ slice (a :: 39 :: c :: t) none (some 2) = cps "qu":=fun z=>by
  rw [cqu] at z
  have z:[a,39] = [113,117]:=(slice_tn _ 2).symm.trans z
  injection z with e1 e2
  injection e2 with e2
  cases e2
 have hm:manyS (a :: 39 :: c :: t) = 1:=if_neg n
 have e1:slice (a :: 39 :: c :: t) none (some 1) = [a]:=slice_tn _ 1
 have e2:slice (a :: 39 :: c :: t) (some ((1:Nat):Int)) (some (((1:Nat):Int) + 1)) = cps "'":=(slice_nn (a :: 39 :: c :: t) 1 2).trans capo.symm
 unfold elideS elideB
 rw [hm,e1,h,e2,if_pos]
 ·exact slice_nt _ 2
 ·rw [Bool.or_true,decide_eq_true rfl,decide_eq_true (by simp; lia)]; rfl
theorem elide_two {c:Nat} {t:T}:elideS (113 :: 117 :: 39 :: c :: t) = c :: t:=by
 have n:slice (113 :: 117 :: 39 :: c :: t) none (some 2) = cps "qu":=(slice_tn _ 2).trans cqu.symm
 have hm:manyS (113 :: 117 :: 39 :: c :: t) = 2:=if_pos n
 have e2:slice (113 :: 117 :: 39 :: c :: t) (some ((2:Nat):Int)) (some (((2:Nat):Int) + 1)) = cps "'":=(slice_nn (113 :: 117 :: 39 :: c :: t) 2 3).trans capo.symm
 unfold elideS elideB
 rw [hm,e2,if_pos]
 ·exact slice_nt _ 3
 ·rw [decide_eq_true (show ((2:Nat):Int) = 2 from rfl),decide_eq_true (show cps "'" = cps "'" from rfl),decide_eq_true (show ((113 :: 117 :: 39 :: c :: t).length:Int) > ((2:Nat):Int) + 1 by simp; lia)]; rfl
section
variable {C:Tbl} {p2 p1 pV:Option Int} {bra ket:Int} {w:T} {Q:QE}
theorem elisions_W (hC:C.loose = true) (hT:C.tab = tabV) (hw:w.length <= 900) (h:∀ (v:Bool) c b k,Q (.bool v) ⟨elideS w,c,(elideS w).length,0,b,k,p2,p1,pV⟩):WM (nT (nT (nT (nT C)))) .elisions [] ⟨w,0,w.length,0,bra,ket,p2,p1,pV⟩ Q:=by
 have hlim:lim = 100000:=rfl
 have keep:(∀ a c t,w = a :: 39 :: c :: t->eliL.contains [a] = false)->(∀ c t,w ≠ 113 :: 117 :: 39 :: c :: t)->∀ (v:Bool) c b k,Q (.bool v) ⟨w,c,w.length,0,b,k,p2,p1,pV⟩:=fun z1 z2=>by rw [elide_keep z1 z2] at h; exact h
 -- behind the mark
 have tail:∀ {a:T} {r:T} {X:QE},w = a ++ r->(∀ c t,r = 39 :: c :: t->elideS w = c :: t)->((¬ ∃ c t,r = 39 :: c :: t)->∀ (v:Bool) c b k,Q (.bool v) ⟨w,c,w.length,0,b,k,p2,p1,pV⟩) ->
  seqK (wpSs (nT (nT (nT C))) (n0 + 1) (ss [.ite (.bop .Or (es [(.cmp .Eq (f0 .csr) (f0 .lim)),(.cmp .NotEq (.idx (f0 .cur) (f0 .csr)) (cs "'"))])) (ss [.ret (.con (.bool false))]) (ss []),.augF 0 .csr .Add (cI 1),.asgnF 0 .ket (f0 .csr),.ite (.cmp .GtE (f0 .csr) (f0 .lim)) (ss [.ret (.con (.bool false))]) (ss []),sd,.ret (.con (.bool true))])) (runK Q) .next [some .self] ⟨w,(a.length:Int),w.length,0,0,ket,p2,p1,pV⟩:=fun {a r X} e1 e2 e3=>by
  have hl:w.length = a.length + r.length:=by rw [e1,List.length_append]
  cases r with
  | nil =>
   refine Br.yes (by rw [hl]; rfl) ?_
   refine Br.tr ?_
   exact e3 (fun ⟨c,t,z⟩=>nomatch z) _ _ _ _
  | cons b t =>
   rw [List.length_cons] at hl
   refine Br.no (by lia) ?_
   refine Idx.of (at_here e1 rfl) ?_
   refine Br.not (Br.dec (fun hb=>?_) (fun hb=>?_))
   ·have hb:b = 39:=by rw [capo] at hb; injection hb
    subst hb
    cases t with
    | nil =>
     refine Br.yes (by rw [hl]; exact Int.le_refl _) ?_
     exact e3 (fun ⟨c,t,z⟩=>by injection z with _ z; cases z) _ _ _ _
    | cons c t =>
     rw [List.length_cons] at hl
     refine Br.no (by lia) ?_
     have e4:w = [] ++ (a ++ [39]) ++ c :: t:=by rw [e1,List.append_assoc]; simp
     rw [e2 c t rfl] at h
     refine del_R (C:=C) (a:=[]) (b:=a ++ [39]) (c:=c :: t) e4 (Int.le_refl _) rfl (by simp) (by rw [<- e4]) (by rw [<- e4]; lia) ?_
     exact h _ _ _ _
   ·refine e3 (fun ⟨c,t',z⟩=>hb ?_) _ _ _ _
    injection z with z _
    rw [z,capo]
 refine WM.run rfl ?_
 refine WW.step ?_
 refine Br.tr ?_
 conv=>whnf
 rw [show (nT (nT (nT C))).tab .eli = .set eliL by rw [show (nT (nT (nT C))).tab = tabV from hT]; rfl]
 -- the second way
 have two:(∀ a c t,w = a :: 39 :: c :: t->eliL.contains [a] = false)->seqK (wpSs (nT (nT (nT C))) (n0 + 1) (ss [.ite (.not_ (.callM .eq_s 0 (es [(cs "qu")]))) (ss [.ret (.con (.bool false))]) (ss []),.brk])) (loopK (wW (wpE (nT (nT (nT C))) (.con (.bool true))) (wpSs (nT (nT (nT C))) (n0 + 1) (ss [.try_ (ss [.ite (.not_ (.callM .in_grouping 0 (es [(.tab .eli)]))) (ss [.raise .l0]) (ss []),.brk]) .l0,.ite (.not_ (.callM .eq_s 0 (es [(cs "qu")]))) (ss [.ret (.con (.bool false))]) (ss []),.brk])) n0) (seqK (wpSs (nT (nT (nT C))) (n0 + 1) (ss [.ite (.bop .Or (es [(.cmp .Eq (f0 .csr) (f0 .lim)),(.cmp .NotEq (.idx (f0 .cur) (f0 .csr)) (cs "'"))])) (ss [.ret (.con (.bool false))]) (ss []),.augF 0 .csr .Add (cI 1),.asgnF 0 .ket (f0 .csr),.ite (.cmp .GtE (f0 .csr) (f0 .lim)) (ss [.ret (.con (.bool false))]) (ss []),sd,.ret (.con (.bool true))])) (runK Q))) .next [some .self] ⟨w,0,w.length,0,0,ket,p2,p1,pV⟩:=fun z=>by
  refine eqS_W (pre:=[]) (suf:=w) rfl rfl rfl (fun hq=>?_) (fun hq=>?_)
  ·obtain ⟨t,ht⟩:=List.isPrefixOf_iff_prefix.mp hq
   have hqu:(0:Int) + ((cps "qu").length:Nat) = (cps "qu").length:=Int.zero_add _
   refine Br.fa ?_
   refine (show seqK (wpSs (nT (nT (nT C))) (n0 + 1) (ss [.ite (.bop .Or (es [(.cmp .Eq (f0 .csr) (f0 .lim)),(.cmp .NotEq (.idx (f0 .cur) (f0 .csr)) (cs "'"))])) (ss [.ret (.con (.bool false))]) (ss []),.augF 0 .csr .Add (cI 1),.asgnF 0 .ket (f0 .csr),.ite (.cmp .GtE (f0 .csr) (f0 .lim)) (ss [.ret (.con (.bool false))]) (ss []),sd,.ret (.con (.bool true))])) (runK Q) .next [some .self] ⟨w,(0:Int) + ((cps "qu").length:Nat),w.length,0,0,ket,p2,p1,pV⟩ from ?_)
   rw [hqu]
   refine tail (X:=Q) ht.symm (fun c t' e=>?_) (fun n=>keep z fun c t' e=>n ⟨c,t',?_⟩)
   ·rw [<- ht,e,cqu]; exact elide_two
   ·rw [<- ht,cqu] at e; injection e with _ e; injection e
  ·conv=>whnf
   refine Br.tr ?_
   refine keep z (fun c t e=>?_) _ _ _ _
   rw [e,cqu] at hq; simp [List.isPrefixOf] at hq
 cases w with
 | nil =>
  refine inG_nil (by decide) ?_
  refine Br.tr ?_
  exact two fun a c t z=>nomatch z
 | cons a r =>
  cases ha:eliL.contains [a] with
  | true =>
   refine inG_y (ch:=a) (by rw [List.length_cons]; lia) (at_here (p:=[]) rfl rfl) ha ?_
   refine Br.fa ?_
   refine (show seqK _ _ _ _ _ from tail (a:=[a]) (r:=r) (X:=Q) rfl (fun c t e=>by rw [e]; exact elide_one ha) fun n=>keep (fun a' c t e=>?_) fun c t e=>?_)
   ·injection e with _ e
    exact (n ⟨c,t,e⟩).elim
   ·injection e with e _
    rw [e,eli_q] at ha; cases ha
  | false =>
   refine inG_n (ch:=a) (by rw [List.length_cons]; lia) (at_here (p:=[]) rfl rfl) ha ?_
   refine Br.tr ?_
   refine two fun a' c t z=>?_
   injection z with z _
   rw [<- z]; exact ha
end
noncomputable def wt (c:Nat):Nat:=if c = 239 then 4 else if c = 235 then 3 else if c = 117 \/ c = 105 \/ c = 121 then 2 else 1
noncomputable def mu:T->Nat
 | []=>0
 | c :: r=>wt c + mu r
theorem wt_pos (c:Nat):1 <= wt c /\ wt c <= 4:=by unfold wt; (repeat' split) <;> decide
theorem mu_le:∀ r:T,mu r <= 4 * r.length
 | []=>Nat.zero_le _
 | c :: r=>by
  have h1:=mu_le r
  have h2:=(wt_pos c).2
  show wt c + mu r <= 4 * (r.length + 1)
  lia
theorem mu_app:∀ a b:T,mu (a ++ b) = mu a + mu b
 | [],b=>(Nat.zero_add _).symm
 | c :: r,b=>by
  show wt c + mu (r ++ b) = wt c + mu r + mu b
  rw [mu_app r b,Nat.add_assoc]
theorem cu:cps "u" = [117]:=by decide +kernel
theorem ci:cps "i" = [105]:=by decide +kernel
theorem cy:cps "y" = [121]:=by decide +kernel
theorem mu_lt {x y a:T} (h:mu x < mu y):mu (x ++ a) < mu (y ++ a):=by rw [mu_app,mu_app]; lia
theorem split1 {r x:T} (h:r.take 1 = x):x ++ r.drop 1 = r:=by rw [<- h,List.take_append_drop]
theorem split2 (r:T):r.take 1 ++ (r.drop 1).take 1 ++ r.drop 2 = r:=by
 have h:=List.take_append_drop 1 (r.drop 1)
 rw [List.drop_drop] at h
 rw [List.append_assoc,h,List.take_append_drop]
theorem mu2 {a x y z:T} (h:mu x < mu y):mu (a ++ x ++ z) < mu (a ++ y ++ z):=by rw [mu_app,mu_app,mu_app,mu_app]; lia
theorem ui {d:T} (h:[cps "u",cps "i"].contains d = true):d = cps "u" \/ d = cps "i":=by
 simpa using h
theorem turn_mu {r r':T} (h:turn r = some r'):mu r' < mu r:=by
 have e1:=fun {x:T}=>@split1 r x
 have e2:=split2 r
 unfold turn outT at h
 generalize r.take 1 = A at *
 generalize (r.drop 1).take 1 = B at *
 generalize r.drop 1 = f1 at *
 generalize r.drop 2 = f2 at *
 split at h
 ·rename_i q
  injection h with h
  rw [<- h,<- e2]
  have hd:B = [117] \/ B = [105] \/ B = [121]:=by
   rw [Bool.and_eq_true,Bool.or_eq_true,Bool.and_eq_true,decide_eq_true_eq] at q
   rcases q.2 with z | z
   ·exact (ui z.1).elim (fun z=>.inl (z.trans cu)) fun z=>.inr (.inl (z.trans ci))
   ·exact .inr (.inr (z.trans cy))
  exact mu2 (by rcases hd with rfl | rfl | rfl <;> decide +kernel)
 split at h
 ·rename_i q
  injection h with h
  rw [<- h,<- e1 q]
  exact mu_lt (by decide +kernel)
 split at h
 ·rename_i q
  injection h with h
  rw [<- h,<- e1 q]
  exact mu_lt (by decide +kernel)
 split at h
 ·rename_i q
  injection h with h
  rw [<- h,<- e1 q.1]
  exact mu_lt (by decide +kernel)
 split at h
 ·rename_i q
  injection h with h
  rw [<- h,<- e2,q.2]
  exact mu2 (by decide +kernel)
 ·cases h
def Fin_ (p r w:T):Prop:=∃ n,mu r <= n /\ (marks n (p,r)).1 ++ (marks n (p,r)).2 = w
theorem turn_nil:turn [] = none:=by decide +kernel
theorem marks_nil (p:T):∀ n,marks n (p,[]) = (p,[])
 | 0=>rfl
 | n + 1=>by
  have e:turnR p [] = (p,[]):=by unfold turnR; rw [turn_nil]
  show marks n (turnR p []) = _
  rw [e]; exact marks_nil p n
theorem Fin_.nil {p w:T} (h:Fin_ p [] w):p = w:=by obtain ⟨n,_,e⟩:=h; rw [marks_nil,List.append_nil] at e; exact e
theorem Fin_.step {p r w:T} (h:Fin_ p r w) (h0:0 < mu r) (h1:mu (turnR p r).2 < mu r):Fin_ (turnR p r).1 (turnR p r).2 w:=by
 obtain ⟨n,hn,hw⟩:=h
 cases n with
 | zero=>lia
 | succ n=>exact ⟨n,by lia,hw⟩
theorem Fin_.turn {p r r' w:T} (h:Fin_ p r w) (e:Mine.turn r = some r'):Fin_ p r' w:=by
 have h1:=turn_mu e
 have e2:turnR p r = (p,r'):=by unfold turnR; rw [e]
 have:=h.step (by lia) (by rw [e2]; exact h1)
 rw [e2] at this; exact this
theorem Fin_.go {p r w:T} {c:Nat} (h:Fin_ p (c :: r) w) (e:Mine.turn (c :: r) = none):Fin_ (p ++ [c]) r w:=by
 have h1:mu r < mu (c :: r):=by have:=(wt_pos c).1; show mu r < wt c + mu r; lia
 have e2:turnR p (c :: r) = (p ++ [c],r):=by unfold turnR; rw [e]
 have:=h.step (by lia) (by rw [e2]; exact h1)
 rw [e2] at this; exact this
section
variable {C:Tbl} {p2 p1 pV:Option Int} {bra ket csr lm lb:Int} {cur:T} {ts:List T} {Q:QE}
theorem head1 (suf:T):suf = [] \/ ∃ c r,suf = c :: r /\ suf.take 1 = [c]:=by
 cases suf with
 | nil=>exact .inl rfl
 | cons c r=>exact .inr ⟨c,r,rfl,rfl⟩
theorem inG_W (pre suf:T) (hcur:cur = pre ++ suf) (hcsr:csr = pre.length) (hlim:lm = cur.length) (hn:ts.contains [] = false)
 (h1:ts.contains (suf.take 1) = true->suf.length ≠ 0->Q (.bool true) ⟨cur,csr + 1,lm,lb,bra,ket,p2,p1,pV⟩) (h0:ts.contains (suf.take 1) = false->Q (.bool false) ⟨cur,csr,lm,lb,bra,ket,p2,p1,pV⟩) :
 WM (nT C) .in_grouping [.set ts] ⟨cur,csr,lm,lb,bra,ket,p2,p1,pV⟩ Q:=by
 have hl:cur.length = pre.length + suf.length:=by rw [hcur,List.length_append]
 rcases head1 suf with rfl | ⟨c,r,rfl,e⟩
 ·exact inG_nil (by rw [hcsr,hlim,hl]; exact Int.le_refl _) (h0 hn)
 ·rw [e] at h1 h0
  rw [List.length_cons] at hl
  cases z:ts.contains [c] with
  | true=>exact inG_y (by lia) (at_here hcur hcsr) z (h1 z (by simp))
  | false=>exact inG_n (by lia) (at_here hcur hcsr) z (h0 z)
theorem chk_W {l:Lc} {x:T} (pre suf:T) (hcur:cur = pre ++ suf) (hcsr:csr = pre.length) (hlim:lm = cur.length) (hx:x ≠ [])
 (h1:suf.take 1 = x->suf.length ≠ 0->Q (.bool false) ⟨cur,csr,lm,lb,bra,ket,p2,p1,pV⟩) (h0:suf.take 1 ≠ x->Q (.bool true) ⟨cur,csr,lm,lb,bra,ket,p2,p1,pV⟩) :
 Br (decide (csr = lm)) (Q (.bool true) ⟨cur,csr,lm,lb,bra,ket,p2,p1,pV⟩) (wpB C .Or (es [(.cmp .NotEq (.idx (f0 .cur) (f0 .csr)) (.con (.str x)))]) (some .self :: l) ⟨cur,csr,lm,lb,bra,ket,p2,p1,pV⟩ Q):=by
 have hl:cur.length = pre.length + suf.length:=by rw [hcur,List.length_append]
 rcases head1 suf with rfl | ⟨c,r,rfl,e⟩
 ·exact Br.yes (by rw [hcsr,hlim,hl]; rfl) (h0 fun z=>hx z.symm)
 ·rw [List.length_cons] at hl
  refine Br.no (by lia) ?_
  rw [e] at h1 h0
  refine Idx.of (at_here hcur hcsr) ?_
  conv=>whnf
  by_cases hc:[c] = x
  ·rw [decide_eq_true hc]; exact h1 hc (by simp)
  ·rw [decide_eq_false hc]; exact h0 hc
end
noncomputable def turnTB:ISs:=(ss [.asgnF 0 .csr (.loc 3),.try_ (ss [.asgnF 0 .bra (f0 .csr),.ite (.bop .Or (es [(.cmp .Eq (f0 .csr) (f0 .lim)),(.cmp .NotEq (.idx (f0 .cur) (f0 .csr)) (cs "ë"))])) (ss [.raise .l2]) (ss []),.augF 0 .csr .Add (cI 1),.asgnF 0 .ket (f0 .csr),sl "He",.brk]) .l2,.asgnF 0 .csr (.loc 3),.try_ (ss [.asgnF 0 .bra (f0 .csr),.ite (.bop .Or (es [(.cmp .Eq (f0 .csr) (f0 .lim)),(.cmp .NotEq (.idx (f0 .cur) (f0 .csr)) (cs "ï"))])) (ss [.raise .l2]) (ss []),.augF 0 .csr .Add (cI 1),.asgnF 0 .ket (f0 .csr),sl "Hi",.brk]) .l2,.asgnF 0 .csr (.loc 3),.try_ (ss [.asgnF 0 .bra (f0 .csr),.ite (.bop .Or (es [(.cmp .Eq (f0 .csr) (f0 .lim)),(.cmp .NotEq (.idx (f0 .cur) (f0 .csr)) (cs "y"))])) (ss [.raise .l2]) (ss []),.augF 0 .csr .Add (cI 1),.asgnF 0 .ket (f0 .csr),.ite (.not_ (.callM .in_grouping 0 (es [(.tab .gv)]))) (ss [.raise .l2]) (ss []),sl "Y",.brk]) .l2,.asgnF 0 .csr (.loc 3),.ite (.bop .Or (es [(.cmp .Eq (f0 .csr) (f0 .lim)),(.cmp .NotEq (.idx (f0 .cur) (f0 .csr)) (cs "q"))])) (ss [.raise .l1]) (ss []),.augF 0 .csr .Add (cI 1),.asgnF 0 .bra (f0 .csr),.ite (.bop .Or (es [(.cmp .Eq (f0 .csr) (f0 .lim)),(.cmp .NotEq (.idx (f0 .cur) (f0 .csr)) (cs "u"))])) (ss [.raise .l1]) (ss []),.augF 0 .csr .Add (cI 1),.asgnF 0 .ket (f0 .csr),sl "U",.brk])
noncomputable def turnB:ISs:=(ss [.asgn 3 (f0 .csr),.try_ (ss [.ite (.not_ (.callM .in_grouping 0 (es [(.tab .gv)]))) (ss [.raise .l2]) (ss []),.asgnF 0 .bra (f0 .csr),.whl (.con (.bool true)) (ss [.asgn 4 (f0 .csr),.try_ (ss [.ite (.bop .Or (es [(.cmp .Eq (f0 .csr) (f0 .lim)),(.cmp .NotEq (.idx (f0 .cur) (f0 .csr)) (cs "u"))])) (ss [.raise .l3]) (ss []),.augF 0 .csr .Add (cI 1),.asgnF 0 .ket (f0 .csr),.ite (.not_ (.callM .in_grouping 0 (es [(.tab .gv)]))) (ss [.raise .l3]) (ss []),sl "U",.brk]) .l3,.asgnF 0 .csr (.loc 4),.try_ (ss [.ite (.bop .Or (es [(.cmp .Eq (f0 .csr) (f0 .lim)),(.cmp .NotEq (.idx (f0 .cur) (f0 .csr)) (cs "i"))])) (ss [.raise .l3]) (ss []),.augF 0 .csr .Add (cI 1),.asgnF 0 .ket (f0 .csr),.ite (.not_ (.callM .in_grouping 0 (es [(.tab .gv)]))) (ss [.raise .l3]) (ss []),sl "I",.brk]) .l3,.asgnF 0 .csr (.loc 4),.ite (.bop .Or (es [(.cmp .Eq (f0 .csr) (f0 .lim)),(.cmp .NotEq (.idx (f0 .cur) (f0 .csr)) (cs "y"))])) (ss [.raise .l2]) (ss []),.augF 0 .csr .Add (cI 1),.asgnF 0 .ket (f0 .csr),sl "Y",.brk]),.brk]) .l2,.asgnF 0 .csr (.loc 3),.try_ (ss [.asgnF 0 .bra (f0 .csr),.ite (.bop .Or (es [(.cmp .Eq (f0 .csr) (f0 .lim)),(.cmp .NotEq (.idx (f0 .cur) (f0 .csr)) (cs "ë"))])) (ss [.raise .l2]) (ss []),.augF 0 .csr .Add (cI 1),.asgnF 0 .ket (f0 .csr),sl "He",.brk]) .l2,.asgnF 0 .csr (.loc 3),.try_ (ss [.asgnF 0 .bra (f0 .csr),.ite (.bop .Or (es [(.cmp .Eq (f0 .csr) (f0 .lim)),(.cmp .NotEq (.idx (f0 .cur) (f0 .csr)) (cs "ï"))])) (ss [.raise .l2]) (ss []),.augF 0 .csr .Add (cI 1),.asgnF 0 .ket (f0 .csr),sl "Hi",.brk]) .l2,.asgnF 0 .csr (.loc 3),.try_ (ss [.asgnF 0 .bra (f0 .csr),.ite (.bop .Or (es [(.cmp .Eq (f0 .csr) (f0 .lim)),(.cmp .NotEq (.idx (f0 .cur) (f0 .csr)) (cs "y"))])) (ss [.raise .l2]) (ss []),.augF 0 .csr .Add (cI 1),.asgnF 0 .ket (f0 .csr),.ite (.not_ (.callM .in_grouping 0 (es [(.tab .gv)]))) (ss [.raise .l2]) (ss []),sl "Y",.brk]) .l2,.asgnF 0 .csr (.loc 3),.ite (.bop .Or (es [(.cmp .Eq (f0 .csr) (f0 .lim)),(.cmp .NotEq (.idx (f0 .cur) (f0 .csr)) (cs "q"))])) (ss [.raise .l1]) (ss []),.augF 0 .csr .Add (cI 1),.asgnF 0 .bra (f0 .csr),.ite (.bop .Or (es [(.cmp .Eq (f0 .csr) (f0 .lim)),(.cmp .NotEq (.idx (f0 .cur) (f0 .csr)) (cs "u"))])) (ss [.raise .l1]) (ss []),.augF 0 .csr .Add (cI 1),.asgnF 0 .ket (f0 .csr),sl "U",.brk])
section
variable {C:Tbl} {p2 p1 pV:Option Int} {n:Nat} {K:QS}
theorem mark1 {Q:QE} {p r x:T} {csr:Int} (hx:x.length <= 2) (hl:(p ++ r).length <= 900) (hr:r.length ≠ 0) (hc:csr >= p.length + 1) (h:∀ c k,Q .none ⟨p ++ (x ++ r.drop 1),c,(p ++ (x ++ r.drop 1)).length,0,p.length,k,p2,p1,pV⟩) :
 WM (nT (nT C)) .slice_from [.str x] ⟨p ++ r,csr,(p ++ r).length,0,p.length,p.length + 1,p2,p1,pV⟩ Q:=by
 have hlim:lim = 100000:=rfl
 have e:p ++ r = p ++ r.take 1 ++ r.drop 1:=by rw [List.append_assoc,List.take_append_drop]
 have l1:(r.take 1).length = 1:=by rw [List.length_take]; lia
 have l2:(p ++ r.take 1).length = p.length + 1:=by rw [List.length_append,l1]
 refine from_R (a:=p) (b:=r.take 1) (c:=r.drop 1) e hc rfl (by rw [l2]; rfl) (by rw [<- e]) ?_ ?_
 ·rw [List.length_append] at hl
  rw [List.length_append,List.length_append,List.length_drop]; lia
 ·rw [List.append_assoc]; exact h _ _
theorem mark2 {Q:QE} {p r x:T} {csr:Int} (hx:x.length <= 2) (hl:(p ++ r).length <= 900) (hr:(r.drop 1).length ≠ 0) (hc:csr >= p.length + 2) (h:∀ c b k,Q .none ⟨p ++ (r.take 1 ++ x ++ r.drop 2),c,(p ++ (r.take 1 ++ x ++ r.drop 2)).length,0,b,k,p2,p1,pV⟩) :
 WM (nT (nT C)) .slice_from [.str x] ⟨p ++ r,csr,(p ++ r).length,0,p.length + 1,p.length + 2,p2,p1,pV⟩ Q:=by
 have hlim:lim = 100000:=rfl
 rw [List.length_drop] at hr
 have e:p ++ r = (p ++ r.take 1) ++ (r.drop 1).take 1 ++ r.drop 2:=by rw [List.append_assoc,List.append_assoc,<- List.append_assoc (r.take 1),split2]
 have l1:(r.take 1).length = 1:=by rw [List.length_take]; lia
 have l3:((r.drop 1).take 1).length = 1:=by rw [List.length_take,List.length_drop]; lia
 have l2:(p ++ r.take 1).length = p.length + 1:=by rw [List.length_append,l1]
 refine from_R (a:=p ++ r.take 1) (b:=(r.drop 1).take 1) (c:=r.drop 2) e hc (by rw [l2]; rfl) (by rw [List.length_append,l2,l3]; lia) (by rw [<- e]) ?_ ?_
 ·rw [List.length_append] at hl
  rw [List.length_append,List.length_append,l2,List.length_drop]; lia
 ·rw [show p ++ r.take 1 ++ x ++ r.drop 2 = p ++ (r.take 1 ++ x ++ r.drop 2) by rw [List.append_assoc,List.append_assoc,List.append_assoc]]; exact h _ _ _
theorem turn_tail {p r:T} {a b d:Option V} {csr bra ket:Int} (hT:C.tab = tabV) (hl:(p ++ r).length <= 900) (ht:¬ (gvL.contains (r.take 1) && (([cps "u",cps "i"].contains ((r.drop 1).take 1) && gvL.contains ((r.drop 2).take 1)) || decide ((r.drop 1).take 1 = cps "y"))) = true)
 (hbrk:∀ r',turn r = some r'->∀ csr bra ket,K .brk [some .self,a,b,some (.int p.length),d] ⟨p ++ r',csr,(p ++ r').length,0,bra,ket,p2,p1,pV⟩)
 (hexc:turn r = none->∀ csr bra ket,K (.exc .l1) [some .self,a,b,some (.int p.length),d] ⟨p ++ r,csr,(p ++ r).length,0,bra,ket,p2,p1,pV⟩) :
 seqK (wpSs (nT (nT (nT C))) n turnTB) K .next [some .self,a,b,some (.int p.length),d] ⟨p ++ r,csr,(p ++ r).length,0,bra,ket,p2,p1,pV⟩:=by
 have hlim:lim = 100000:=rfl
 have hgn:gvL.contains [] = false:=by decide +kernel
 have htab:(nT (nT (nT C))).tab .gv = .set gvL:=by rw [show (nT (nT (nT C))).tab = tabV from hT]; rfl
 unfold turn outT at hbrk hexc
 rw [if_neg ht] at hbrk hexc
 have k2:p ++ r = p ++ r.take 1 ++ r.drop 1:=by rw [List.append_assoc,List.take_append_drop]
 have kl:r.length ≠ 0->((p ++ r.take 1).length:Int) = p.length + 1:=fun z=>by rw [List.length_append,List.length_take]; lia
 refine chk_W p r rfl rfl rfl (by decide +kernel) (fun h1 hz=>?_) (fun h1=>?_)
 ·conv=>whnf
  refine Br.fa ?_
  refine mark1 (C:=nT C) (by decide +kernel) hl hz (Int.le_refl _) fun c k=>?_
  exact hbrk _ (by rw [if_pos h1]; rfl) _ _ _
 rw [if_neg h1] at hbrk hexc
 refine Br.tr ?_
 refine chk_W p r rfl rfl rfl (by decide +kernel) (fun h1 hz=>?_) (fun h1=>?_)
 ·conv=>whnf
  refine Br.fa ?_
  refine mark1 (C:=nT C) (by decide +kernel) hl hz (Int.le_refl _) fun c k=>?_
  exact hbrk _ (by rw [if_pos h1]; rfl) _ _ _
 rw [if_neg h1] at hbrk hexc
 refine Br.tr ?_
 refine chk_W p r rfl rfl rfl (by decide +kernel) (fun h1 hz=>?a) (fun h1=>?b)
 case' a =>
  refine Br.fa ?_
  conv=>whnf
  rw [htab]
  refine inG_W (C:=nT (nT C)) (p ++ r.take 1) (r.drop 1) k2 (kl hz).symm rfl hgn (fun h2 hz2=>?y) (fun h2=>?n)
 case y =>
  refine Br.fa ?_
  refine mark1 (C:=nT C) (by decide +kernel) hl hz (by lia) fun c k=>?_
  exact hbrk _ (by rw [if_pos ⟨h1,h2⟩]; rfl) _ _ _
 case' n =>
  rw [if_neg fun z=>by rw [h2] at z; cases z.2] at hbrk hexc
  clear h1 h2 hz
  refine Br.tr ?_
 case' b =>
  rw [if_neg fun z=>h1 z.1] at hbrk hexc
  clear h1
  refine Br.tr ?_
 all_goals (conv=>whnf)
 all_goals (refine chk_W p r rfl rfl rfl (by decide +kernel) (fun h1 hz=>?_) (fun h1=>?_))
 all_goals (conv=>whnf)
 all_goals first
  |(refine Br.tr ?_
    rw [if_neg fun z=>h1 z.1] at hexc
    exact hexc rfl _ _ _)
  |(refine Br.fa ?_
    refine chk_W (p ++ r.take 1) (r.drop 1) k2 (kl hz).symm rfl (by decide +kernel) (fun h2 hz2=>?_) (fun h2=>?_)
    ·conv=>whnf
     refine Br.fa ?_
     refine mark2 (C:=nT C) (by decide +kernel) hl hz2 (by lia) fun c b k=>?_
     exact hbrk _ (by rw [if_pos ⟨h1,h2⟩]) _ _ _
    ·conv=>whnf
     refine Br.tr ?_
     rw [if_neg fun z=>h2 z.2] at hexc
     exact hexc rfl _ _ _)
end
theorem turn_yes {r:T} (h:(gvL.contains (r.take 1) && (([cps "u",cps "i"].contains ((r.drop 1).take 1) && gvL.contains ((r.drop 2).take 1)) || decide ((r.drop 1).take 1 = cps "y"))) = true):turn r = some (r.take 1 ++ ((r.drop 1).take 1).map (· - 32) ++ r.drop 2):=by
 unfold turn outT
 rw [if_pos h]
section
variable {C:Tbl} {p2 p1 pV:Option Int} {n:Nat} {K:QS}
theorem turn_all {p r:T} {a b c d:Option V} {bra ket:Int} (hT:C.tab = tabV) (hl:(p ++ r).length <= 900)
 (hbrk:∀ r',turn r = some r'->∀ d csr bra ket,K .brk [some .self,a,b,some (.int p.length),d] ⟨p ++ r',csr,(p ++ r').length,0,bra,ket,p2,p1,pV⟩)
 (hexc:turn r = none->∀ d csr bra ket,K (.exc .l1) [some .self,a,b,some (.int p.length),d] ⟨p ++ r,csr,(p ++ r).length,0,bra,ket,p2,p1,pV⟩) :
 wpSs (nT (nT (nT C))) (n + 1) turnB [some .self,a,b,c,d] ⟨p ++ r,p.length,(p ++ r).length,0,bra,ket,p2,p1,pV⟩ K:=by
 have hgn:gvL.contains [] = false:=by decide +kernel
 have htab:(nT (nT (nT C))).tab .gv = .set gvL:=by rw [show (nT (nT (nT C))).tab = tabV from hT]; rfl
 have k2:p ++ r = p ++ r.take 1 ++ r.drop 1:=by rw [List.append_assoc,List.take_append_drop]
 have k3:p ++ r = p ++ r.take 1 ++ (r.drop 1).take 1 ++ r.drop 2:=by rw [List.append_assoc,List.append_assoc,<- List.append_assoc (r.take 1),split2]
 have kl:r.length ≠ 0->((p ++ r.take 1).length:Int) = p.length + 1:=fun z=>by rw [List.length_append,List.length_take]; lia
 have kl2:(r.drop 1).length ≠ 0->((p ++ r.take 1 ++ (r.drop 1).take 1).length:Int) = p.length + 1 + 1:=fun z=>by rw [List.length_drop] at z; rw [List.length_append,List.length_append,List.length_take,List.length_take,List.length_drop]; lia
 have tail:∀ {d:Option V} {csr bra ket:Int},¬ (gvL.contains (r.take 1) && (([cps "u",cps "i"].contains ((r.drop 1).take 1) && gvL.contains ((r.drop 2).take 1)) || decide ((r.drop 1).take 1 = cps "y"))) = true ->
  seqK (wpSs (nT (nT (nT C))) (n + 1) turnTB) K .next [some .self,a,b,some (.int p.length),d] ⟨p ++ r,csr,(p ++ r).length,0,bra,ket,p2,p1,pV⟩:=fun ht=>turn_tail hT hl ht (fun r' e=>hbrk r' e _) (fun e=>hexc e _)
 have nui:¬ cps "u" = cps "i":=by decide +kernel
 have nuy:¬ cps "u" = cps "y":=by decide +kernel
 have niy:¬ cps "i" = cps "y":=by decide +kernel
 clear hexc
 conv=>whnf
 rw [htab]
 refine inG_W (C:=nT (nT C)) p r rfl rfl rfl hgn (fun hA hz=>?_) (fun hA=>?_)
 case' refine_2 =>
  refine Br.tr ?_
  exact tail (csr:=p.length) (bra:=bra) (ket:=ket) (by rw [hA]; exact fT)
 rw [hA,Bool.true_and] at tail
 refine Br.fa ?_
 refine WW.step ?_
 refine Br.tr ?_
 refine chk_W (p ++ r.take 1) (r.drop 1) k2 (kl hz).symm rfl (by decide +kernel) (fun hB hz2=>?k_u) (fun hB=>?k_nu)
 case' k_nu =>
  refine Br.tr ?_
  refine chk_W (p ++ r.take 1) (r.drop 1) k2 (kl hz).symm rfl (by decide +kernel) (fun hB2 hz2=>?k_i) (fun hB2=>?k_ni)
 case' k_ni =>
  refine Br.tr ?_
  refine chk_W (p ++ r.take 1) (r.drop 1) k2 (kl hz).symm rfl (by decide +kernel) (fun hB3 hz2=>?k_y) (fun hB3=>?k_ny)
 case k_ny =>
  refine Br.tr ?_
  refine tail (csr:=(p.length:Int) + 1) (bra:=(p.length:Int) + 1) (ket:=ket) ?_
  rw [decide_eq_false hB3,Bool.or_false,Bool.and_eq_true]
  exact fun z=>(ui z.1).elim hB hB2
 case k_y =>
  refine Br.fa ?_
  refine mark2 (C:=nT C) (by decide +kernel) hl hz2 (by lia) fun c b k=>?_
  exact hbrk _ (by rw [turn_yes (by rw [hA,decide_eq_true hB3,Bool.or_true]; rfl),hB3]; rfl) _ _ _ _
 case' k_u =>
  refine Br.fa ?_
  conv=>whnf
  rw [htab]
  refine inG_W (C:=nT (nT C)) (p ++ r.take 1 ++ (r.drop 1).take 1) (r.drop 2) k3 (kl2 hz2).symm rfl hgn (fun hD hz3=>?k_u1) (fun hD=>?k_u0)
 case k_u1 =>
  refine Br.fa ?_
  refine mark2 (C:=nT C) (by decide +kernel) hl hz2 (by lia) fun c b k=>?_
  exact hbrk _ (by rw [turn_yes (by rw [hA,hB,hD]; decide +kernel),hB]; rfl) _ _ _ _
 case k_u0 =>
  refine Br.tr ?_
  refine chk_W (p ++ r.take 1) (r.drop 1) k2 (kl hz).symm rfl (by decide +kernel) (fun z _=>(nui (hB.symm.trans z)).elim) (fun _=>?_)
  refine Br.tr ?_
  refine chk_W (p ++ r.take 1) (r.drop 1) k2 (kl hz).symm rfl (by decide +kernel) (fun z _=>(nuy (hB.symm.trans z)).elim) (fun hY=>?_)
  refine Br.tr ?_
  exact tail (csr:=(p.length:Int) + 1) (bra:=(p.length:Int) + 1) (ket:=(p.length:Int) + 1 + 1) (by rw [decide_eq_false hY,hD,Bool.and_false]; exact fT)
 case' k_i =>
  refine Br.fa ?_
  conv=>whnf
  rw [htab]
  refine inG_W (C:=nT (nT C)) (p ++ r.take 1 ++ (r.drop 1).take 1) (r.drop 2) k3 (kl2 hz2).symm rfl hgn (fun hD hz3=>?k_i1) (fun hD=>?k_i0)
 case k_i1 =>
  refine Br.fa ?_
  refine mark2 (C:=nT C) (by decide +kernel) hl hz2 (by lia) fun c b k=>?_
  exact hbrk _ (by rw [turn_yes (by rw [hA,hB2,hD]; decide +kernel),hB2]; rfl) _ _ _ _
 case k_i0 =>
  refine Br.tr ?_
  refine chk_W (p ++ r.take 1) (r.drop 1) k2 (kl hz).symm rfl (by decide +kernel) (fun z _=>(niy (hB2.symm.trans z)).elim) (fun hY=>?_)
  refine Br.tr ?_
  exact tail (csr:=(p.length:Int) + 1) (bra:=(p.length:Int) + 1) (ket:=(p.length:Int) + 1 + 1) (by rw [decide_eq_false hY,hD,Bool.and_false]; exact fT)
noncomputable def scanB:ISs:=(ss [.asgn 2 (f0 .csr),.try_ (ss [.whl (.con (.bool true)) turnB,.asgnF 0 .csr (.loc 2),.brk]) .l1,.asgnF 0 .csr (.loc 2),.ite (.cmp .GtE (f0 .csr) (f0 .lim)) (ss [.raise .l0]) (ss []),.augF 0 .csr .Add (cI 1)])
noncomputable def preB:ISs:=(ss [.asgn 1 (f0 .csr),.try_ (ss [.whl (.con (.bool true)) scanB,.cont]) .l0,.asgnF 0 .csr (.loc 1),.brk])
theorem scan_loop {Q:QS} (hT:C.tab = tabV) (w:T) (k:Int) (m0:Nat)
 (hB:∀ (p r:T) (b c d:Option V) (bra ket:Int),Fin_ p r w->mu r < m0->(p ++ r).length + mu r <= 900->Q .next [some .self,some (.int k),b,c,d] ⟨p ++ r,p.length,(p ++ r).length,0,bra,ket,p2,p1,pV⟩)
 (hE:∀ (b c d:Option V) (csr bra ket:Int),Q (.exc .l0) [some .self,some (.int k),b,c,d] ⟨w,csr,w.length,0,bra,ket,p2,p1,pV⟩) :
 ∀ (m:Nat) (p r:T) (b c d:Option V) (bra ket:Int),r.length < m->Fin_ p r w->mu r <= m0->(p ++ r).length + mu r <= 900 ->
 WW (wpE (nT (nT (nT C))) (.con (.bool true))) (wpSs (nT (nT (nT C))) (n + 1) scanB) m [some .self,some (.int k),b,c,d] ⟨p ++ r,p.length,(p ++ r).length,0,bra,ket,p2,p1,pV⟩ Q
 | 0,p,r,b,c,d,bra,ket,hm,_,_,_=>by lia
 | m + 1,p,r,b,c,d,bra,ket,hm,hf,hmu,hl=>by
  have ih:=scan_loop hT w k m0 hB hE m
  refine WW.step ?_
  refine Br.tr ?_
  refine WW.step ?_
  refine Br.tr ?_
  refine turn_all hT (by lia) (fun r' e d csr bra ket=>?_) (fun e d csr bra ket=>?_)
  ·have h1:=turn_mu e
   have h2:=turn_len e
   exact hB p r' _ _ _ _ _ (hf.turn e) (by lia) (by simp only [List.length_append] at hl ⊢; lia)
  ·conv=>whnf
   cases r with
   | nil =>
    have:=hf.nil
    rw [List.append_nil,this]
    refine Br.yes (Int.le_refl _) ?_
    exact hE _ _ _ _ _ _
   | cons x r =>
    have hpr:p ++ [x] ++ r = p ++ x :: r:=List.append_assoc ..
    have hpl:((p ++ [x]).length:Int) = p.length + 1:=by rw [List.length_append]; rfl
    have hx:=(wt_pos x).1
    have hmx:mu (x :: r) = wt x + mu r:=rfl
    refine Br.no (by rw [List.length_append,List.length_cons]; lia) ?_
    have:=ih (p ++ [x]) r (some (.int p.length)) (some (.int p.length)) d bra ket (by rw [List.length_cons] at hm; lia) (hf.go e) (by lia) (by rw [hpr]; lia)
    rw [hpr,hpl] at this
    exact this.ex
theorem pre_loop {Q:QS} (hT:C.tab = tabV) (w:T) (hQ:∀ l csr bra ket,Q .next l ⟨w,csr,w.length,0,bra,ket,p2,p1,pV⟩) :
 ∀ (m:Nat) (p r:T) (a b c d:Option V) (bra ket:Int),mu r < m->r.length <= n->Fin_ p r w->(p ++ r).length + mu r <= 900->900 <= n ->
 WW (wpE (nT (nT (nT C))) (.con (.bool true))) (wpSs (nT (nT (nT C))) (n + 1) preB) m [some .self,a,b,c,d] ⟨p ++ r,p.length,(p ++ r).length,0,bra,ket,p2,p1,pV⟩ Q
 | 0,p,r,a,b,c,d,bra,ket,hm,_,_,_,_=>by lia
 | m + 1,p,r,a,b,c,d,bra,ket,hm,hr,hf,hl,hn=>by
  have ih:=pre_loop hT w hQ m
  refine WW.step ?_
  refine Br.tr ?_
  refine scan_loop hT w p.length (mu r) (fun p' r' b c d bra ket h1 h2 h3=>?_) (fun b c d csr bra ket=>?_) (n + 1) p r _ _ _ _ _ (by lia) hf (Nat.le_refl _) hl
  ·exact (ih p' r' _ _ _ _ _ _ (by lia) (by rw [List.length_append] at h3; lia) h1 h3 hn).ex
  ·exact hQ _ _ _ _
noncomputable def preS (e:T):T:=(marks (4 * e.length + 4) ([],e)).1 ++ (marks (4 * e.length + 4) ([],e)).2
theorem prelude_W {e:T} {bra ket:Int} {Q:QE} (hT:C.tab = tabV) (he:e.length <= 100) (h:∀ (v:Bool) c b k,Q (.bool v) ⟨preS e,c,(preS e).length,0,b,k,p2,p1,pV⟩):WM (nT (nT (nT (nT C)))) .prelude [] ⟨e,0,e.length,0,bra,ket,p2,p1,pV⟩ Q:=by
 have hm:=mu_le e
 refine WM.run rfl ?_
 refine (show WW (wpE (nT (nT (nT C))) (.con (.bool true))) (wpSs (nT (nT (nT C))) (999 + 1) preB) (n0 + 1) [some .self,none,none,none,none] ⟨[] ++ e,(([]:T).length:Nat),(([] ++ e:T).length:Nat),0,bra,ket,p2,p1,pV⟩ _ from pre_loop hT (preS e) (fun l csr bra ket=>?_) (n0 + 1) [] e none none none none bra ket (by show mu e < 1000; lia) (by lia) ⟨_,by lia,rfl⟩ (by rw [List.nil_append]; lia) (by decide))
 exact h _ _ _ _
end
section
variable {C:Tbl} {p2 p1 pV:Option Int} {bra ket lb:Int} {w:T} {n:Nat}
theorem go_loop {op:CmpOp} {p:Nat->Bool} {Q:QS} (hop:∀ (c:Nat) (P:Bool->Prop),P (!p c)->wCmp op (.str [c]) (.set gvL) P):∀ (m k:Nat),w.length - k < m->k <= w.length ->
 (k + runN p (w.drop k) < w.length->Q (.ret (.bool true)) [some .self,some (.set gvL)] ⟨w,((k + runN p (w.drop k):Nat):Int),w.length,lb,bra,ket,p2,p1,pV⟩) ->
 (k + runN p (w.drop k) = w.length->Q .next [some .self,some (.set gvL)] ⟨w,(w.length:Nat),w.length,lb,bra,ket,p2,p1,pV⟩) ->
 WW (wpE C (.cmp .Lt (f0 .csr) (f0 .lim))) (wpSs C n (ss [.ite (.cmp op (.idx (f0 .cur) (f0 .csr)) (.loc 1)) (ss [.ret (.con (.bool true))]) (ss []),.augF 0 .csr .Add (cI 1)])) m [some .self,some (.set gvL)] ⟨w,(k:Int),w.length,lb,bra,ket,p2,p1,pV⟩ Q
 | 0,k,h,_,_,_=>by lia
 | m + 1,k,hm,hk,h1,h0=>by
  have ih:=go_loop (Q:=Q) hop m (k + 1)
  refine WW.step ?_
  refine Br.dec (fun hl=>?_) (fun hl=>?_)
  ·obtain ⟨c,e⟩:∃ c,w[k]? = some c:=⟨_,List.getElem?_eq_getElem (by lia)⟩
   rw [runN_at e] at h1 h0
   refine Idx.of ((pyAt_nat w k).trans e) ?_
   refine hop c _ ?_
   refine Br.not (Br.mk (fun h2=>?_) (fun h2=>?_))
   ·rw [if_pos h2,show k + (runN p (w.drop (k + 1)) + 1) = k + 1 + runN p (w.drop (k + 1)) by lia] at h1 h0
    exact (ih (by lia) (by lia) h1 h0).ex
   ·rw [if_neg (by rw [h2]; exact fT)] at h1
    exact h1 (by lia)
  ·have hkl:k = w.length:=by lia
   rw [hkl]
   rw [List.drop_of_length_le (by lia)] at h0
   exact h0 hkl
theorem hopO (c:Nat) (P:Bool->Prop) (hP:P (!(isV c == false))):wCmp .In (.str [c]) (.set gvL) P:=by
 rw [beq_false,Bool.not_not] at hP; exact hP
theorem hopI (c:Nat) (P:Bool->Prop) (hP:P (!(isV c == true))):wCmp .NotIn (.str [c]) (.set gvL) P:=by
 rw [beq_true] at hP; exact hP
variable {Q:QE}
theorem goOut_W {k:Nat} (hk:k <= w.length) (hw:w.length <= 900) (h1:k + runN (fun c=>isV c == false) (w.drop k) < w.length->Q (.bool true) ⟨w,((k + runN (fun c=>isV c == false) (w.drop k):Nat):Int),w.length,lb,bra,ket,p2,p1,pV⟩)
 (h0:k + runN (fun c=>isV c == false) (w.drop k) = w.length->Q (.bool false) ⟨w,(w.length:Nat),w.length,lb,bra,ket,p2,p1,pV⟩):WM (nT C) .go_out_grouping [.set gvL] ⟨w,(k:Int),w.length,lb,bra,ket,p2,p1,pV⟩ Q:=by
 refine WM.run rfl ?_
 exact go_loop hopO (n0 + 1) k (by show w.length - k < 1000; lia) hk h1 h0
theorem goIn_W {k:Nat} (hk:k <= w.length) (hw:w.length <= 900) (h1:k + runN (fun c=>isV c == true) (w.drop k) < w.length->Q (.bool true) ⟨w,((k + runN (fun c=>isV c == true) (w.drop k):Nat):Int),w.length,lb,bra,ket,p2,p1,pV⟩)
 (h0:k + runN (fun c=>isV c == true) (w.drop k) = w.length->Q (.bool false) ⟨w,(w.length:Nat),w.length,lb,bra,ket,p2,p1,pV⟩):WM (nT C) .go_in_grouping [.set gvL] ⟨w,(k:Int),w.length,lb,bra,ket,p2,p1,pV⟩ Q:=by
 refine WM.run rfl ?_
 exact go_loop hopI (n0 + 1) k (by show w.length - k < 1000; lia) hk h1 h0
end
theorem run_stop {p:Nat->Bool} {w:T} {k:Nat} (h:k + runN p (w.drop k) < w.length):∃ c,w[k + runN p (w.drop k)]? = some c /\ p c = false:=by
 generalize hd:w.drop k = d at h
 have hw:∀ j,w[k + j]? = d[j]?:=fun j=>by rw [<- hd,List.getElem?_drop]
 have hl:runN p d < d.length:=by rw [<- hd] at h ⊢; rw [List.length_drop]; lia
 rw [hw]
 clear hd hw h
 induction d with
 | nil=>cases hl
 | cons c r ih =>
  cases hp:p c with
  | true =>
   have e:runN p (c :: r) = runN p r + 1:=if_pos hp
   rw [e] at hl ⊢
   exact ih (Nat.lt_of_succ_lt_succ hl)
  | false =>
   have e:runN p (c :: r) = 0:=if_neg (by rw [hp]; exact fT)
   rw [e]; exact ⟨c,rfl,hp⟩
theorem runN_all {p:Nat->Bool} {w:T} {k:Nat} (hk:k <= w.length):k + runN p (w.drop k) <= w.length:=by have:=runN_le p (w.drop k); rw [List.length_drop] at this; lia
theorem behind_end {w:T} {k:Nat} (hk:k <= w.length) (h:k + runN (fun c=>isV c == false) (w.drop k) = w.length):behindS w k = w.length:=by
 unfold behindS
 rw [h]; exact Nat.min_eq_right (by lia)
theorem behind_in {w:T} {k a:Nat} (e:k + runN (fun c=>isV c == false) (w.drop k) = a) (h:a < w.length):behindS w k = min (a + 1 + runN (fun c=>isV c == true) (w.drop (a + 1)) + 1) w.length:=by
 obtain ⟨c,e1,e2⟩:=run_stop (p:=fun c=>isV c == false) (w:=w) (k:=k) (by rw [e]; exact h)
 rw [e] at e1
 have hc:isV c = true:=by rw [beq_false] at e2; cases z:isV c; rw [z] at e2; cases e2; rfl
 unfold behindS
 rw [e]
 show min (a + runN (fun c=>isV c == true) (w.drop a) + 1) w.length = _
 rw [runN_at e1,if_pos (by rw [hc]; rfl)]
 congr 1; lia
section
variable {C:Tbl} {bra ket:Int} {w:T} {n:Nat} {Q:QE}
theorem region_W {k1:Int} {k2:Option V} {k3:Option V} {k4:Option V} {pV:Int} (hT:C.tab = tabV) (hw:w.length <= 900)
 (h:∀ v:Bool,Q (.bool v) ⟨w,0,w.length,0,bra,ket,some (behindS w (behindS w 0):Nat),some (behindS w 0:Nat),some pV⟩) {c:Int} (hk1:k1 = 0) :
 seqK (wpSs (nT C) n (ss [.asgnF 0 .csr (.loc 1),.asgn 4 (f0 .csr),.try_ (ss [.ite (.not_ (.callM .go_out_grouping 0 (es [(.tab .gv)]))) (ss [.raise .l0]) (ss []),.augF 0 .csr .Add (cI 1),.ite (.not_ (.callM .go_in_grouping 0 (es [(.tab .gv)]))) (ss [.raise .l0]) (ss []),.augF 0 .csr .Add (cI 1),.asgnF 0 .p1 (f0 .csr),.ite (.not_ (.callM .go_out_grouping 0 (es [(.tab .gv)]))) (ss [.raise .l0]) (ss []),.augF 0 .csr .Add (cI 1),.ite (.not_ (.callM .go_in_grouping 0 (es [(.tab .gv)]))) (ss [.raise .l0]) (ss []),.augF 0 .csr .Add (cI 1),.asgnF 0 .p2 (f0 .csr)]) .l0,.asgnF 0 .csr (.loc 4),.ret (.con (.bool true))])) (runK Q) .next [some .self,some (.int k1),k2,k3,k4] ⟨w,c,w.length,0,bra,ket,some w.length,some w.length,some pV⟩:=by
 have htab:(nT C).tab .gv = .set gvL:=by rw [show (nT C).tab = tabV from hT]; rfl
 have hbb:behindS w w.length = w.length:=behind_end (Nat.le_refl _) (by rw [List.drop_of_length_le (Nat.le_refl _)]; rfl)
 subst hk1
 conv=>whnf
 rw [htab]
 refine goOut_W (C:=C) (k:=0) (Nat.zero_le _) hw (fun h1=>?_) (fun h1=>?_)
 case' refine_2 =>
  rw [behind_end (Nat.zero_le _) h1,hbb] at h
  refine Br.tr ?_
  exact h _
 have h2:=behind_in rfl h1
 generalize 0 + runN (fun c=>isV c == false) (w.drop 0) = a at *
 have hra:=runN_all (p:=fun c=>isV c == true) (show a + 1 <= w.length from h1)
 refine Br.fa ?_
 conv=>whnf
 rw [htab]
 refine goIn_W (C:=C) (k:=a + 1) h1 hw (fun h3=>?_) (fun h3=>?_)
 case' refine_2 =>
  rw [h3,Nat.min_eq_right (by lia)] at h2
  rw [h2,hbb] at h
  refine Br.tr ?_
  exact h _
 rw [Nat.min_eq_left (by lia)] at h2
 rw [h2] at h
 generalize a + 1 + runN (fun c=>isV c == true) (w.drop (a + 1)) = b at *
 clear hbb h2 hra
 refine Br.fa ?_
 conv=>whnf
 rw [htab]
 refine goOut_W (C:=C) (k:=b + 1) h3 hw (fun h4=>?_) (fun h4=>?_)
 case' refine_2 =>
  rw [behind_end h3 h4] at h
  refine Br.tr ?_
  exact h _
 have h5:=behind_in rfl h4
 generalize b + 1 + runN (fun c=>isV c == false) (w.drop (b + 1)) = d at *
 have hrd:=runN_all (p:=fun c=>isV c == true) (show d + 1 <= w.length from h4)
 refine Br.fa ?_
 conv=>whnf
 rw [htab]
 refine goIn_W (C:=C) (k:=d + 1) h4 hw (fun h6=>?_) (fun h6=>?_)
 case' refine_2 =>
  rw [h6,Nat.min_eq_right (by lia)] at h5
  rw [h5] at h
  refine Br.tr ?_
  exact h _
 rw [Nat.min_eq_left (by lia)] at h5
 rw [h5] at h
 refine Br.fa ?_
 exact h _
end
def condA (w:T):Prop:=2 < w.length /\ isV (w.getD 0 0) = true /\ isV (w.getD 1 0) = true
def condB (w:T):Prop:=[cps "col",cps "par",cps "tap"].contains (slice w none (some 3)) = true \/ (slice w none (some 2) = cps "ni" /\ gvL.contains (slice w (some 2) (some 3)) = true)
theorem first_A {w:T} (h:condA w):firstS w = 3:=if_pos h
theorem first_B {w:T} (h:condB w):firstS w = 3:=by
 unfold condB at h
 unfold firstS
 rw [if_pos h]
 exact ite_self _
theorem first_N {w:T} (h1:¬ condA w) (h2:¬ condB w):firstS w = min (1 + runN (fun c=>isV c == false) (w.drop 1) + 1) w.length:=(if_neg h1).trans (if_neg h2)
theorem A_of {w:T} (h:2 < w.length):w.take 1 = [w.getD 0 0] /\ (w.drop 1).take 1 = [w.getD 1 0]:=by
 obtain ⟨a,b,c,t,rfl⟩:=three h
 exact ⟨rfl,rfl⟩
theorem B_no {w:T} (h:∀ e ∈ t0L,e.1.isPrefixOf w = false):¬ condB w:=by
 have s3:slice w none (some 3) = w.take 3:=slice_tn w 3
 have s2:slice w none (some 2) = w.take 2:=slice_tn w 2
 have n:∀ {x:T},w.take x.length = x->(∃ e ∈ t0L,e.1 = x)->False:=fun h1 ⟨e,he,ee⟩=>by
  have:=h e he
  rw [ee,take_pre h1] at this; cases this
 intro hb
 unfold condB at hb
 rw [s3,s2,List.contains_iff_mem] at hb
 simp only [List.mem_cons,List.not_mem_nil,or_false] at hb
 rcases hb with (z | z | z) | ⟨z,_⟩
 ·exact n (x:=cps "col") z ⟨_,.head _,rfl⟩
 ·exact n (x:=cps "par") z ⟨_,.tail _ (.tail _ (.head _)),rfl⟩
 ·exact n (x:=cps "tap") z ⟨_,.tail _ (.tail _ (.tail _ (.head _))),rfl⟩
 ·exact n (x:=cps "ni") z ⟨_,.tail _ (.head _),rfl⟩
theorem B_3 {w x r:T} (hw:w = x ++ r) (hx:x.length = 3) (hc:[cps "col",cps "par",cps "tap"].contains x = true):condB w:=by
 have s3:slice w none (some 3) = w.take 3:=slice_tn w 3
 refine .inl ?_
 rw [s3,hw,List.take_left' hx]; exact hc
theorem B_ni {w r:T} (hw:w = cps "ni" ++ r):condB w ↔ gvL.contains (r.take 1) = true:=by
 have s3:slice w none (some 3) = w.take 3:=slice_tn w 3
 have s2:slice w none (some 2) = w.take 2:=slice_tn w 2
 have s23:slice w (some 2) (some 3) = (w.take 3).drop 2:=slice_nn w 2 3
 have ni:cps "ni" = [110,105]:=by decide +kernel
 have no:∀ x y:T,[cps "col",cps "par",cps "tap"].contains (110 :: 105 :: x) = true->False:=fun x y h=>by
  rw [List.contains_iff_mem,show cps "col" = [99,111,108] by decide +kernel,show cps "par" = [112,97,114] by decide +kernel,show cps "tap" = [116,97,112] by decide +kernel] at h
  simp at h
 rw [ni] at hw
 unfold condB
 rw [s3,s2,s23,hw,ni]
 exact ⟨fun h=>h.elim (fun z=>(no _ [] z).elim) fun z=>z.2,fun h=>.inr ⟨rfl,h⟩⟩
theorem t0_lit:∀ e ∈ t0L,(e.1 = cps "ni" /\ e.2.2 = 1) \/ (e.1.length = 3 /\ e.2.2 = -1 /\ [cps "col",cps "par",cps "tap"].contains e.1 = true):=fun e he=>by
 have h:t0L.all (fun e=>(decide (e.1 = cps "ni") && decide (e.2.2 = 1)) || (decide (e.1.length = 3) && decide (e.2.2 = -1) && [cps "col",cps "par",cps "tap"].contains e.1)) = true:=by decide +kernel
 have:=List.all_eq_true.mp h e he
 simpa [-List.contains_eq_mem,-List.contains_cons,and_assoc] using this
section
variable {C:Tbl} {p2 p1:Option Int} {pv bra ket:Int} {w:T} {m n:Nat} {Q:QE}
theorem pV_3 (hT:C.tab = tabV) (hC:C.loose = true) (hw:w.length <= 900) (hA:¬ condA w) (hB:¬ condB w) {c:Int} {d e:Option V}
 (h:∀ v:Bool,Q (.bool v) ⟨w,0,w.length,0,bra,ket,some (behindS w (behindS w 0):Nat),some (behindS w 0:Nat),some (firstS w:Nat)⟩) :
 seqK (wpSs (nT C) (n + 1) (ss [.asgnF 0 .csr (.loc 2),.ite (.cmp .GtE (f0 .csr) (f0 .lim)) (ss [.raise .l0]) (ss []),.augF 0 .csr .Add (cI 1),.ite (.not_ (.callM .go_out_grouping 0 (es [(.tab .gv)]))) (ss [.raise .l0]) (ss []),.augF 0 .csr .Add (cI 1),.brk])) (loopK (wW (wpE (nT C) (.con (.bool true))) (wpSs (nT C) (n + 1) (ss [.asgn 2 (f0 .csr),.try_ (ss [.ite (.not_ (.callM .in_grouping 0 (es [(.tab .gv)]))) (ss [.raise .l1]) (ss []),.ite (.not_ (.callM .in_grouping 0 (es [(.tab .gv)]))) (ss [.raise .l1]) (ss []),.ite (.cmp .GtE (f0 .csr) (f0 .lim)) (ss [.raise .l1]) (ss []),.augF 0 .csr .Add (cI 1),.brk]) .l1,.asgnF 0 .csr (.loc 2),.try_ (ss [.asgn 3 (.callM .find_among 0 (es [(.tab .a0)])),.ite (.cmp .Eq (.loc 3) (cI 0)) (ss [.raise .l1]) (ss []),.ite (.cmp .Eq (.loc 3) (cI 1)) (ss [.ite (.not_ (.callM .in_grouping 0 (es [(.tab .gv)]))) (ss [.raise .l1]) (ss [])]) (ss []),.brk]) .l1,.asgnF 0 .csr (.loc 2),.ite (.cmp .GtE (f0 .csr) (f0 .lim)) (ss [.raise .l0]) (ss []),.augF 0 .csr .Add (cI 1),.ite (.not_ (.callM .go_out_grouping 0 (es [(.tab .gv)]))) (ss [.raise .l0]) (ss []),.augF 0 .csr .Add (cI 1),.brk])) m) (seqK (wpSs (nT C) (n + 1) (ss [.asgnF 0 .pV (f0 .csr)])) (tryK .l0 (seqK (wpSs (nT C) (n + 1) (ss [.asgnF 0 .csr (.loc 1),.asgn 4 (f0 .csr),.try_ (ss [.ite (.not_ (.callM .go_out_grouping 0 (es [(.tab .gv)]))) (ss [.raise .l0]) (ss []),.augF 0 .csr .Add (cI 1),.ite (.not_ (.callM .go_in_grouping 0 (es [(.tab .gv)]))) (ss [.raise .l0]) (ss []),.augF 0 .csr .Add (cI 1),.asgnF 0 .p1 (f0 .csr),.ite (.not_ (.callM .go_out_grouping 0 (es [(.tab .gv)]))) (ss [.raise .l0]) (ss []),.augF 0 .csr .Add (cI 1),.ite (.not_ (.callM .go_in_grouping 0 (es [(.tab .gv)]))) (ss [.raise .l0]) (ss []),.augF 0 .csr .Add (cI 1),.asgnF 0 .p2 (f0 .csr)]) .l0,.asgnF 0 .csr (.loc 4),.ret (.con (.bool true))])) (runK Q))))) .next [some .self,some (.int 0),some (.int 0),d,e] ⟨w,c,w.length,0,bra,ket,some w.length,some w.length,some w.length⟩:=by
 have htab:(nT C).tab .gv = .set gvL:=by rw [show (nT C).tab = tabV from hT]; rfl
 rw [first_N hA hB] at h
 refine Br.dec (fun h1=>?_) (fun h1=>?_)
 ·have h0:w.length = 0:=by lia
  rw [show min (1 + runN (fun c=>isV c == false) (w.drop 1) + 1) w.length = w.length by lia] at h
  exact region_W hT hw h rfl (c:=0)
 conv=>whnf
 rw [htab]
 refine goOut_W (C:=C) (k:=1) (by lia) hw (fun h2=>?_) (fun h2=>?_)
 ·rw [Nat.min_eq_left h2] at h
  generalize 1 + runN (fun c=>isV c == false) (w.drop 1) = a at *
  refine Br.fa ?_
  exact region_W hT hw h rfl (c:=(a:Int) + 1)
 ·rw [Nat.min_eq_right (by lia)] at h
  refine Br.tr ?_
  exact region_W hT hw h rfl (c:=(w.length:Nat))
theorem pV_2 (hT:C.tab = tabV) (hC:C.loose = true) (hw:w.length <= 900) (hA:¬ condA w) {c:Int} {d e:Option V}
 (h:∀ v:Bool,Q (.bool v) ⟨w,0,w.length,0,bra,ket,some (behindS w (behindS w 0):Nat),some (behindS w 0:Nat),some (firstS w:Nat)⟩) :
 seqK (wpSs (nT C) (n + 1) (ss [.asgnF 0 .csr (.loc 2),.try_ (ss [.asgn 3 (.callM .find_among 0 (es [(.tab .a0)])),.ite (.cmp .Eq (.loc 3) (cI 0)) (ss [.raise .l1]) (ss []),.ite (.cmp .Eq (.loc 3) (cI 1)) (ss [.ite (.not_ (.callM .in_grouping 0 (es [(.tab .gv)]))) (ss [.raise .l1]) (ss [])]) (ss []),.brk]) .l1,.asgnF 0 .csr (.loc 2),.ite (.cmp .GtE (f0 .csr) (f0 .lim)) (ss [.raise .l0]) (ss []),.augF 0 .csr .Add (cI 1),.ite (.not_ (.callM .go_out_grouping 0 (es [(.tab .gv)]))) (ss [.raise .l0]) (ss []),.augF 0 .csr .Add (cI 1),.brk])) (loopK (wW (wpE (nT C) (.con (.bool true))) (wpSs (nT C) (n + 1) (ss [.asgn 2 (f0 .csr),.try_ (ss [.ite (.not_ (.callM .in_grouping 0 (es [(.tab .gv)]))) (ss [.raise .l1]) (ss []),.ite (.not_ (.callM .in_grouping 0 (es [(.tab .gv)]))) (ss [.raise .l1]) (ss []),.ite (.cmp .GtE (f0 .csr) (f0 .lim)) (ss [.raise .l1]) (ss []),.augF 0 .csr .Add (cI 1),.brk]) .l1,.asgnF 0 .csr (.loc 2),.try_ (ss [.asgn 3 (.callM .find_among 0 (es [(.tab .a0)])),.ite (.cmp .Eq (.loc 3) (cI 0)) (ss [.raise .l1]) (ss []),.ite (.cmp .Eq (.loc 3) (cI 1)) (ss [.ite (.not_ (.callM .in_grouping 0 (es [(.tab .gv)]))) (ss [.raise .l1]) (ss [])]) (ss []),.brk]) .l1,.asgnF 0 .csr (.loc 2),.ite (.cmp .GtE (f0 .csr) (f0 .lim)) (ss [.raise .l0]) (ss []),.augF 0 .csr .Add (cI 1),.ite (.not_ (.callM .go_out_grouping 0 (es [(.tab .gv)]))) (ss [.raise .l0]) (ss []),.augF 0 .csr .Add (cI 1),.brk])) m) (seqK (wpSs (nT C) (n + 1) (ss [.asgnF 0 .pV (f0 .csr)])) (tryK .l0 (seqK (wpSs (nT C) (n + 1) (ss [.asgnF 0 .csr (.loc 1),.asgn 4 (f0 .csr),.try_ (ss [.ite (.not_ (.callM .go_out_grouping 0 (es [(.tab .gv)]))) (ss [.raise .l0]) (ss []),.augF 0 .csr .Add (cI 1),.ite (.not_ (.callM .go_in_grouping 0 (es [(.tab .gv)]))) (ss [.raise .l0]) (ss []),.augF 0 .csr .Add (cI 1),.asgnF 0 .p1 (f0 .csr),.ite (.not_ (.callM .go_out_grouping 0 (es [(.tab .gv)]))) (ss [.raise .l0]) (ss []),.augF 0 .csr .Add (cI 1),.ite (.not_ (.callM .go_in_grouping 0 (es [(.tab .gv)]))) (ss [.raise .l0]) (ss []),.augF 0 .csr .Add (cI 1),.asgnF 0 .p2 (f0 .csr)]) .l0,.asgnF 0 .csr (.loc 4),.ret (.con (.bool true))])) (runK Q))))) .next [some .self,some (.int 0),some (.int 0),d,e] ⟨w,c,w.length,0,bra,ket,some w.length,some w.length,some w.length⟩:=by
 have htab:(nT C).tab .gv = .set gvL:=by rw [show (nT C).tab = tabV from hT]; rfl
 have h3:condB w->∀ v:Bool,Q (.bool v) ⟨w,0,w.length,0,bra,ket,some (behindS w (behindS w 0):Nat),some (behindS w 0:Nat),some 3⟩:=fun z=>by rw [first_B z] at h; exact h
 conv=>whnf
 rw [show (nT C).tab .a0 = .list (t0L.map amV) by rw [show (nT C).tab = tabV from hT]; rfl]
 refine amongF_W (C:=C) (pre:=[]) (suf:=w) hC ok0 rfl rfl rfl (fun h0=>?_) (fun e r hs he hm=>?_)
 ·conv=>whnf
  refine Br.tr ?_
  exact pV_3 hT hC hw hA (B_no h0) h (c:=0)
 ·obtain ⟨x,i,k⟩:=e
  simp only at hs ⊢
  rcases t0_lit _ he with ⟨z1,z2⟩ | ⟨z1,z2,z3⟩
  ·simp only at z1 z2
   subst z2
   rw [z1] at hs ⊢
   have hb:=B_ni hs
   have hl:(0:Int) + ((cps "ni").length:Nat) = 2:=by decide +kernel
   rw [hl]
   clear he hm z1
   refine Br.no (by decide) ?_
   refine Br.yes rfl ?_
   conv=>whnf
   rw [htab]
   refine inG_W (C:=C) (cps "ni") r hs (by decide +kernel) rfl (by decide +kernel) (fun g hz=>?_) (fun g=>?_)
   ·conv=>whnf
    refine Br.fa ?_
    exact region_W hT hw (h3 (hb.mpr g)) rfl (c:=3)
   ·conv=>whnf
    refine Br.tr ?_
    exact pV_3 hT hC hw hA (fun z=>by rw [hb.mp z] at g; cases g) h (c:=2)
  ·simp only at z1 z2 z3
   subst z2
   have hb:=h3 (B_3 hs z1 z3)
   rw [z1]
   refine Br.no (by decide) ?_
   refine Br.no (by decide) ?_
   exact region_W hT hw hb rfl (c:=3)
end
theorem mark_W {C:Tbl} {p2 p1 pV:Option Int} {bra ket:Int} {w:T} {Q:QE} (hT:C.tab = tabV) (hC:C.loose = true) (hw:w.length <= 900)
 (h:∀ v:Bool,Q (.bool v) ⟨w,0,w.length,0,bra,ket,some (behindS w (behindS w 0):Nat),some (behindS w 0:Nat),some (firstS w:Nat)⟩):WM (nT (nT C)) .mark_regions [] ⟨w,0,w.length,0,bra,ket,p2,p1,pV⟩ Q:=by
 have htab:(nT C).tab .gv = .set gvL:=by rw [show (nT C).tab = tabV from hT]; rfl
 have hgn:gvL.contains [] = false:=by decide +kernel
 refine WM.run rfl ?_
 refine WW.step ?_
 refine Br.tr ?_
 conv=>whnf
 rw [htab]
 refine inG_W (C:=C) [] w rfl rfl rfl hgn (fun h1 hz=>?_) (fun h1=>?_)
 case' refine_2 =>
  refine Br.tr ?_
  exact pV_2 (n:=999) (m:=999) hT hC hw (fun z=>by rw [(A_of z.1).1] at h1; exact absurd (z.2.1.symm.trans h1) (by decide)) h (c:=0)
 refine Br.fa ?_
 conv=>whnf
 rw [htab]
 have hl1:((w.take 1).length:Int) = 0 + 1:=by rw [List.length_take]; lia
 refine inG_W (C:=C) (w.take 1) (w.drop 1) (List.take_append_drop 1 w).symm hl1.symm rfl hgn (fun h2 hz2=>?_) (fun h2=>?_)
 case' refine_2 =>
  refine Br.tr ?_
  exact pV_2 (n:=999) (m:=999) hT hC hw (fun z=>by rw [(A_of z.1).2] at h2; exact absurd (z.2.2.symm.trans h2) (by decide)) h (c:=0 + 1)
 refine Br.fa ?_
 refine Br.dec (fun h3=>?_) (fun h3=>?_)
 ·exact pV_2 (n:=999) (m:=999) hT hC hw (fun z=>by have:=z.1; lia) h (c:=0 + 1 + 1)
 ·have h4:2 < w.length:=by lia
  rw [first_A ⟨h4,by rw [(A_of h4).1] at h1; exact h1,by rw [(A_of h4).2] at h2; exact h2⟩] at h
  exact region_W (n:=1000) hT hw h rfl (c:=0 + 1 + 1 + 1)
theorem cut_app (p x:T):cutS (p ++ x) x = p:=by
 unfold cutS
 rw [show ((p ++ x).length:Int) - (x.length:Nat) = (p.length:Nat) by rw [List.length_append]; lia,slice_tn,List.take_left' rfl]
theorem cut_nil (p:T):cutS p [] = p:=by have:=cut_app p []; rw [List.append_nil] at this; exact this
theorem suf_app {p x:T}:x.isSuffixOf (p ++ x) = true:=List.isSuffixOf_iff_suffix.mpr ⟨p,rfl⟩
theorem suf_ex {w x:T} (h:x.isSuffixOf w = true):∃ p,w = p ++ x:=let ⟨p,e⟩:=List.isSuffixOf_iff_suffix.mp h; ⟨p,e.symm⟩
theorem lend_of {tb:List (T × Int × Int)} {b p:T} {e:T × Int × Int} (h:Best tb b p e) (hz:0 < e.1.length):lend (tb.map (·.1)) b = e.1:=by
 obtain ⟨g1,g2,g3⟩:=lend_spec (tb.map (·.1)) b
 have hs:e.1.isSuffixOf b = true:=by rw [h.eq]; exact suf_app
 have l1:=g3 e.1 (List.mem_map_of_mem h.mem) hs
 rcases g1 with z | z
 ·rw [z] at l1; exact absurd hz (Nat.not_lt.mpr l1)
 ·obtain ⟨e',he',ee⟩:=List.mem_map.mp z
  have ee:e'.1 = lend (tb.map (·.1)) b:=ee
  have:=h.max e' he' (by rw [ee]; exact g2)
  exact suf_eq g2 hs (Nat.le_antisymm (by rw [ee] at this; exact this) l1)
theorem lend_no {tb:List (T × Int × Int)} {b:T} (h:∀ e ∈ tb,e.1.isSuffixOf b = false):lend (tb.map (·.1)) b = []:=by
 obtain ⟨g1,g2,g3⟩:=lend_spec (tb.map (·.1)) b
 rcases g1 with z | z
 ·exact z
 ·obtain ⟨e',he',ee⟩:=List.mem_map.mp z
  have ee:e'.1 = lend (tb.map (·.1)) b:=ee
  have:=h e' he'
  rw [ee,g2] at this; cases this
theorem end_of {tb:List (T × Int × Int)} {a b p:T} {e:T × Int × Int} {l:List T} (hl:l = tb.map (·.1)) (h:Best tb b p e) (hz:0 < e.1.length):endS (a ++ b) l (a.length:Nat) = e.1:=by
 unfold endS
 rw [slice_suf,hl]; exact lend_of h hz
theorem end_no {tb:List (T × Int × Int)} {a b:T} {l:List T} (hl:l = tb.map (·.1)) (h:∀ e ∈ tb,e.1.isSuffixOf b = false):endS (a ++ b) l (a.length:Nat) = []:=by
 unfold endS
 rw [slice_suf,hl]; exact lend_no h
theorem end0_of {tb:List (T × Int × Int)} {b p:T} {e:T × Int × Int} {l:List T} (hl:l = tb.map (·.1)) (h:Best tb b p e) (hz:0 < e.1.length):endS b l 0 = e.1:=end_of (a:=[]) hl h hz
theorem end0_no {tb:List (T × Int × Int)} {b:T} {l:List T} (hl:l = tb.map (·.1)) (h:∀ e ∈ tb,e.1.isSuffixOf b = false):endS b l 0 = []:=end_no (a:=[]) hl h
theorem end_one {p x:T} (hx:0 < x.length):endS p [x] 0 = if x.isSuffixOf p = true then x else []:=by
 split
 ·rename_i h
  obtain ⟨q,rfl⟩:=suf_ex h
  exact end0_of (tb:=[(x,0,0)]) (e:=(x,0,0)) (p:=q) rfl ⟨rfl,.head _,fun e' he _=>by rcases List.mem_cons.mp he with rfl | he; exact Nat.le_refl _; cases he⟩ hx
 ·rename_i h
  refine end0_no (tb:=[(x,0,0)]) rfl fun e he=>?_
  rcases List.mem_cons.mp he with rfl | he
  ·exact Bool.eq_false_iff.mpr h
  ·cases he
theorem less_yes {p x:T} {two:Int} (hx:0 < x.length):lessS (p ++ x) [x] two = if (p.length:Int) < two then p ++ x else p:=by
 unfold lessS
 rw [end_one hx,if_pos suf_app,cut_app]
 split
 ·rw [if_neg (by lia)]
 ·rw [if_pos (by lia)]
theorem less_no {p x:T} {two:Int} (hx:0 < x.length) (h:x.isSuffixOf p = false):lessS p [x] two = p:=by
 have e:endS p [x] 0 = []:=by rw [end_one hx,if_neg (by rw [h]; exact fT)]
 unfold lessS
 rw [e,cut_nil]
 exact ite_self _
theorem or_app {p x o:T} {two:Int}:orS (p ++ x) x two o = if (p.length:Int) < two then p ++ o else p:=by
 unfold orS
 rw [cut_app]
 split
 ·rw [if_neg (by lia)]
 ·rw [if_pos (by lia)]
theorem ic_yes {p:T} {two:Int}:icS (p ++ cps "ic") two = if (p.length:Int) < two then p ++ cps "iqU" else p:=by
 unfold icS
 have h:slice (p ++ cps "ic") (some (-2)) none = cps "ic":=(slice_back (k:=2) (by decide +kernel) (by decide)).mpr suf_app
 rw [if_pos h]; exact or_app
theorem ic_no {p:T} {two:Int} (h:(cps "ic").isSuffixOf p = false):icS p two = p:=by
 unfold icS
 exact if_neg fun z=>by
  have z:=(slice_back (w:=p) (x:=cps "ic") (k:=2) (by decide +kernel) (by decide)).mp z
  rw [z] at h; cases h
theorem noun_keys:nounsK = t4L.map (·.1):=rfl
theorem short_keys:shortL = t5L.map (·.1):=rfl
theorem verb_keys:verbsK = t7L.map (·.1):=rfl
theorem rest_keys:restK = t8L.map (·.1):=rfl
theorem more_keys:moreL = t2L.map (·.1):=rfl
theorem abil_keys:abilL = t3L.map (·.1):=rfl
theorem al_keys:alL = t6L.map (·.1):=rfl
noncomputable def isInt (x:Int):Option V->Bool
 | some (.int k)=>decide (k = x)
 | _=>false
theorem isInt_ok {x:Int}:∀ {o:Option V},isInt x o = true->o = some (.int x)
 | some (.int k),h=>by rw [show k = x from of_decide_eq_true h]
noncomputable def kindsB (ks:List T) (vs:List V) (tb:List (T × Int × Int)) (lo hi:Int):Bool:=tb.all fun e=>isInt e.2.2 (dictGet ks vs e.1) && decide (0 < e.1.length) && decide (lo <= e.2.2) && decide (e.2.2 <= hi)
theorem kinds_of {ks:List T} {vs:List V} {tb:List (T × Int × Int)} {lo hi:Int} (h:kindsB ks vs tb lo hi = true) {e:T × Int × Int} (he:e ∈ tb):kindOf ks vs e.1 = e.2.2 /\ 0 < e.1.length /\ lo <= e.2.2 /\ e.2.2 <= hi:=by
 have:=List.all_eq_true.mp h e he
 simp only [Bool.and_eq_true,decide_eq_true_eq] at this
 refine ⟨?_,this.1.1.2,this.1.2,this.2⟩
 unfold kindOf
 rw [isInt_ok this.1.1.1]
theorem noun_kinds {e:T × Int × Int} (he:e ∈ t4L):nounK e.1 = e.2.2 /\ 0 < e.1.length /\ 1 <= e.2.2 /\ e.2.2 <= 16:=kinds_of (by decide +kernel) he
theorem verb_kinds {e:T × Int × Int} (he:e ∈ t7L):verbK e.1 = e.2.2 /\ 0 < e.1.length /\ 1 <= e.2.2 /\ e.2.2 <= 4:=kinds_of (by decide +kernel) he
theorem rest_kinds {e:T × Int × Int} (he:e ∈ t8L):endK e.1 = e.2.2 /\ 0 < e.1.length /\ 1 <= e.2.2 /\ e.2.2 <= 3:=kinds_of (by decide +kernel) he
section
variable {C:Tbl} {p2 p1 pV:Option Int} {bra ket csr lm lb:Int} {w p x y:T} {Q:QE}
theorem fromE (hw:w = p ++ x) (hx:0 < x.length) (hl:w.length <= 900) (hy:y.length <= 10) (hc:csr <= p.length) (hlm:lm = w.length) (hk:ket = w.length) (hb:bra = p.length) (h:∀ k,Q .none ⟨p ++ y,csr,(p ++ y).length,lb,p.length,k,p2,p1,pV⟩) :
 WM (nT (nT C)) .slice_from [.str y] ⟨w,csr,lm,lb,bra,ket,p2,p1,pV⟩ Q:=by
 have hlim:lim = 100000:=rfl
 have e:w = p ++ x ++ []:=by rw [List.append_nil]; exact hw
 have hwl:w.length = p.length + x.length:=by rw [hw,List.length_append]
 subst hb
 refine from_L (a:=p) (b:=x) (c:=[]) e hc rfl (by rw [hk,hw]) (by rw [<- e]; exact hlm) hx (by rw [List.append_nil,List.length_append]; lia) ?_
 rw [List.append_nil]
 exact h _
theorem delE (hw:w = p ++ x) (hx:0 < x.length) (hl:w.length <= 900) (hc:csr <= p.length) (hlm:lm = w.length) (hk:ket = w.length) (hb:bra = p.length) (h:∀ k,Q .none ⟨p,csr,p.length,lb,p.length,k,p2,p1,pV⟩) :
 WM (nT (nT (nT C))) .slice_del [] ⟨w,csr,lm,lb,bra,ket,p2,p1,pV⟩ Q:=by
 refine WM.run rfl ?_
 refine fromE (y:=cps "") hw hx hl (Nat.zero_le _) hc hlm hk hb fun k=>?_
 rw [show cps "" = [] from rfl,List.append_nil]
 exact h k
end
theorem Br.le {a b:Int} {α:Type} {F:α->Prop} {x y:α} {A B:Prop} (h:F (if b < a then x else y)) (h1:a <= b->F y->A) (h2:F x->B):Br (decide (a <= b)) A B :=
 Br.dec (fun c=>h1 c (by rw [if_neg (Int.not_lt.mpr c)] at h; exact h)) (fun c=>h2 (by rw [if_pos (Int.not_le.mp c)] at h; exact h))
section
variable {w head e:T} {f o t:Int}
theorem noun1:nounG 1 w head e f o t = if (head.length:Int) < t then (w,false) else (head,true):=rfl
theorem noun2:nounG 2 w head e f o t = if (head.length:Int) < t then (w,false) else (icS head t,true):=rfl
theorem noun3:nounG 3 w head e f o t = if (head.length:Int) < t then (w,false) else (head ++ cps "log",true):=rfl
theorem noun4:nounG 4 w head e f o t = if (head.length:Int) < t then (w,false) else (head ++ cps "u",true):=rfl
theorem noun5:nounG 5 w head e f o t = if (head.length:Int) < t then (w,false) else (head ++ cps "ent",true):=rfl
theorem noun6:nounG 6 w head e f o t = if (head.length:Int) < f then (w,false) else (adverbS head f o t,true):=rfl
theorem noun7:nounG 7 w head e f o t = if (head.length:Int) < t then (w,false) else (abilS head t,true):=rfl
theorem noun8:nounG 8 w head e f o t = if (head.length:Int) < t then (w,false) else (ifS head t,true):=rfl
theorem noun9:nounG 9 w head e f o t = (head ++ cps "eau",true):=rfl
theorem noun10:nounG 10 w head e f o t = if (head.length:Int) < o then (w,false) else (head ++ cps "al",true):=rfl
theorem noun11:nounG 11 w head e f o t = if ouxL.contains (slice head (some (-1)) none) = true then (head ++ cps "ou",true) else (w,false):=rfl
theorem noun12:nounG 12 w head e f o t = if (head.length:Int) < o then (w,false) else (orS w e t (cps "eux"),true):=rfl
theorem noun13:nounG 13 w head e f o t = if (head.length:Int) < o then (w,false) else if head = cps "" then (w,false) else if gvL.contains (lastS head) = true then (w,false) else (head,true):=rfl
theorem noun14:nounG 14 w head e f o t = (if (head.length:Int) < f then w else head ++ cps "ant",false):=rfl
theorem noun15:nounG 15 w head e f o t = (if (head.length:Int) < f then w else head ++ cps "ent",false):=rfl
theorem noun16:nounG 16 w head e f o t = (if gvL.contains (slice head (some (-1)) none) = true then (if (head.length:Int) > f then head else w) else w,false):=rfl
end
theorem if_no {p:T} {two:Int} (h:(cps "at").isSuffixOf p = false):ifS p two = p:=by
 unfold ifS
 rw [less_no (by decide +kernel) h]; exact if_pos rfl
theorem if_yes {q:T} {two:Int}:ifS (q ++ cps "at") two = if (q.length:Int) < two then q ++ cps "at" else icS q two:=by
 unfold ifS
 rw [less_yes (by decide +kernel)]
 have hn:¬ q = q ++ cps "at":=fun z=>by
  have:=congrArg List.length z
  rw [List.length_append,show (cps "at").length = 2 by decide +kernel] at this
  lia
 by_cases h:(q.length:Int) < two
 ·rw [if_pos h,if_pos rfl,if_pos h]
 ·rw [if_neg h,if_neg hn,if_neg h]
theorem adverb_no {p:T} {f o t:Int} (h:∀ e ∈ t2L,e.1.isSuffixOf p = false):adverbS p f o t = p:=by
 unfold adverbS
 rw [end0_no more_keys h,cut_nil]
 unfold adverbG
 rw [if_neg (fun z=>absurd z.1 (by decide +kernel)),if_neg (by decide +kernel),if_neg (by decide +kernel)]
 exact ite_self _
noncomputable def advR (k:Int) (less head:T) (f o t:Int):T :=
 if k = 1 then (if (less.length:Int) < t then head else lessS less [cps "at"] t)
 else if k = 2 then (if (less.length:Int) < t then (if (less.length:Int) < o then head else less ++ cps "eux") else less)
 else if k = 3 then (if (less.length:Int) < t then head else less)
 else (if (less.length:Int) < f then head else less ++ cps "i")
theorem flip_lt {a b:Int} {x y:T}:(if a >= b then x else y) = if a < b then y else x:=by
 split
 ·rw [if_neg (by lia)]
 ·rw [if_pos (by lia)]
theorem adverb_yes {p q:T} {f o t:Int} {e:T × Int × Int} (h:Best t2L p q e):adverbS p f o t = advR e.2.2 q p f o t /\ 0 < e.1.length /\ 1 <= e.2.2 /\ e.2.2 <= 4:=by
 have hz:∀ e ∈ t2L,0 < e.1.length /\ 1 <= e.2.2 /\ e.2.2 <= 4:=fun e he=>by
  have h:t2L.all (fun e=>decide (0 < e.1.length) && decide (1 <= e.2.2) && decide (e.2.2 <= 4)) = true:=by decide +kernel
  have:=List.all_eq_true.mp h e he
  rw [Bool.and_eq_true,Bool.and_eq_true,decide_eq_true_eq,decide_eq_true_eq,decide_eq_true_eq] at this
  exact ⟨this.1.1,this.1.2,this.2⟩
 have hz:=hz e h.mem
 refine ⟨?_,hz⟩
 have hc:cutS p e.1 = q:=by rw [h.eq]; exact cut_app _ _
 unfold adverbS
 rw [end0_of more_keys h hz.1,hc]
 have hm:=h.mem
 clear h hz hc
 have n1:∀ {x:String} {A B:T} {P:Prop} [Decidable P],¬ cps x = cps "iv"->(if cps x = cps "iv" /\ P then A else B) = B:=fun h=>if_neg fun z=>h z.1
 have s3:∀ {x:String},¬ cps x = cps "iv"->¬ cps x = cps "eus"->[cps "Ièr",cps "ièr"].contains (cps x) = false->adverbG (cps x) q p f o t = advR 3 q p f o t:=fun h1 h2 h3=>by
  unfold adverbG
  rw [n1 h1,if_neg h2,if_neg (by rw [h3]; exact fT),flip_lt]; rfl
 have s4:∀ {x:String},¬ cps x = cps "iv"->¬ cps x = cps "eus"->[cps "Ièr",cps "ièr"].contains (cps x) = true->adverbG (cps x) q p f o t = advR 4 q p f o t:=fun h1 h2 h3=>by
  unfold adverbG
  rw [n1 h1,if_neg h2,if_pos h3,flip_lt]; rfl
 rcases List.mem_cons.mp hm with rfl | hm
 ·exact s3 (x:="iqU") (by decide +kernel) (by decide +kernel) (by decide +kernel)
 rcases List.mem_cons.mp hm with rfl | hm
 ·exact s3 (x:="abl") (by decide +kernel) (by decide +kernel) (by decide +kernel)
 rcases List.mem_cons.mp hm with rfl | hm
 ·exact s4 (x:="Ièr") (by decide +kernel) (by decide +kernel) (by decide +kernel)
 rcases List.mem_cons.mp hm with rfl | hm
 ·exact s4 (x:="ièr") (by decide +kernel) (by decide +kernel) (by decide +kernel)
 rcases List.mem_cons.mp hm with rfl | hm
 ·show adverbG (cps "eus") q p f o t = advR 2 q p f o t
  unfold adverbG
  rw [n1 (by decide +kernel),if_pos rfl,flip_lt,flip_lt]; rfl
 rcases List.mem_cons.mp hm with rfl | hm
 ·show adverbG (cps "iv") q p f o t = if (q.length:Int) < t then p else lessS q [cps "at"] t
  unfold adverbG
  by_cases hq:(q.length:Int) < t
  ·rw [if_pos hq,if_neg (fun z=>by lia),if_neg (by decide +kernel),if_neg (by decide +kernel),if_neg (by lia)]
  ·rw [if_neg hq,if_pos ⟨rfl,by lia⟩]
 ·cases hm
theorem abil_no {p:T} {t:Int} (h:∀ e ∈ t3L,e.1.isSuffixOf p = false):abilS p t = p:=by
 unfold abilS
 rw [end0_no abil_keys h,if_neg (by decide +kernel)]
 have e:abilO [] = []:=by decide +kernel
 unfold orS
 rw [e,cut_nil,List.append_nil]
 exact ite_self _
noncomputable def abilR (k:Int) (q p:T) (t:Int):T :=
 if k = 1 then (if (q.length:Int) < t then q ++ cps "abl" else q)
 else if k = 2 then (if (q.length:Int) < t then q ++ cps "iqU" else q)
 else (if (q.length:Int) < t then p else q)
theorem abil_yes {p q:T} {t:Int} {e:T × Int × Int} (h:Best t3L p q e):abilS p t = abilR e.2.2 q p t /\ 0 < e.1.length /\ 1 <= e.2.2 /\ e.2.2 <= 3:=by
 have hz:∀ e ∈ t3L,0 < e.1.length /\ 1 <= e.2.2 /\ e.2.2 <= 3:=fun e he=>by
  have h:t3L.all (fun e=>decide (0 < e.1.length) && decide (1 <= e.2.2) && decide (e.2.2 <= 3)) = true:=by decide +kernel
  have:=List.all_eq_true.mp h e he
  rw [Bool.and_eq_true,Bool.and_eq_true,decide_eq_true_eq,decide_eq_true_eq,decide_eq_true_eq] at this
  exact ⟨this.1.1,this.1.2,this.2⟩
 have hz:=hz e h.mem
 refine ⟨?_,hz⟩
 unfold abilS
 rw [end0_of abil_keys h hz.1]
 have hm:=h.mem
 have hp:=h.eq
 clear h hz
 rcases List.mem_cons.mp hm with rfl | hm
 ·have ho:abilO (cps "ic") = cps "iqU":=by decide +kernel
  rw [if_neg (by decide +kernel),hp,or_app,ho]; rfl
 rcases List.mem_cons.mp hm with rfl | hm
 ·have ho:abilO (cps "abil") = cps "abl":=by decide +kernel
  rw [if_neg (by decide +kernel),hp,or_app,ho]; rfl
 rcases List.mem_cons.mp hm with rfl | hm
 ·rw [if_pos rfl,hp,less_yes (by decide +kernel)]; rfl
 ·cases hm
theorem last_cases (p:T):p = [] \/ ∃ q c,p = q ++ [c]:=by
 rcases Classical.em (p = []) with z | z
 ·exact .inl z
 ·obtain ⟨q,c,e⟩:=snoc p z; exact .inr ⟨q,c,e⟩
section
variable {C:Tbl} {w p x:T} {first one two:Int} {n:Nat} {K:QS} {G:T × Bool->Prop} (hw:w = p ++ x) (hx:0 < x.length) (hl:w.length <= 900)
include hw hx hl
theorem block1 {v1:V} (h:G (if (p.length:Int) < two then (w,false) else (p,true)))
 (hN:∀ {x:T} {l:Lc} {c b k:Int},G (x,true)->K .next l ⟨x,c,x.length,0,b,k,some two,some one,some first⟩)
 (hR:∀ {x:T} {l:Lc} {c b k:Int},G (x,false)->K (.ret (.bool false)) l ⟨x,c,x.length,0,b,k,some two,some one,some first⟩) :
 wpSs (nT (nT (nT C))) (n + 1) (ss [.ite (.not_ (.callM .r2 0 (es []))) (ss [.ret (.con (.bool false))]) (ss []),sd]) [some .self,some v1,none,none,none,none,none,none,none,none,none,none,none] ⟨w,p.length,w.length,0,p.length,w.length,some two,some one,some first⟩ K:=by
 refine r2_W ?_
 refine Br.not (Br.le h (fun hc h=>?_) (fun h=>hR h))
 refine delE (C:=C) hw hx hl (Int.le_refl _) rfl rfl rfl fun k=>?_
 exact hN h
theorem block3 {v1:V} (h:G (if (p.length:Int) < two then (w,false) else (p ++ cps "log",true)))
 (hN:∀ {x:T} {l:Lc} {c b k:Int},G (x,true)->K .next l ⟨x,c,x.length,0,b,k,some two,some one,some first⟩)
 (hR:∀ {x:T} {l:Lc} {c b k:Int},G (x,false)->K (.ret (.bool false)) l ⟨x,c,x.length,0,b,k,some two,some one,some first⟩) :
 wpSs (nT (nT (nT C))) (n + 1) (ss [.ite (.not_ (.callM .r2 0 (es []))) (ss [.ret (.con (.bool false))]) (ss []),sl "log"]) [some .self,some v1,none,none,none,none,none,none,none,none,none,none,none] ⟨w,p.length,w.length,0,p.length,w.length,some two,some one,some first⟩ K:=by
 refine r2_W ?_
 refine Br.not (Br.le h (fun hc h=>?_) (fun h=>hR h))
 refine fromE (C:=nT C) hw hx hl (by decide +kernel) (Int.le_refl _) rfl rfl rfl fun k=>?_
 exact hN h
theorem block4 {v1:V} (h:G (if (p.length:Int) < two then (w,false) else (p ++ cps "u",true)))
 (hN:∀ {x:T} {l:Lc} {c b k:Int},G (x,true)->K .next l ⟨x,c,x.length,0,b,k,some two,some one,some first⟩)
 (hR:∀ {x:T} {l:Lc} {c b k:Int},G (x,false)->K (.ret (.bool false)) l ⟨x,c,x.length,0,b,k,some two,some one,some first⟩) :
 wpSs (nT (nT (nT C))) (n + 1) (ss [.ite (.not_ (.callM .r2 0 (es []))) (ss [.ret (.con (.bool false))]) (ss []),sl "u"]) [some .self,some v1,none,none,none,none,none,none,none,none,none,none,none] ⟨w,p.length,w.length,0,p.length,w.length,some two,some one,some first⟩ K:=by
 refine r2_W ?_
 refine Br.not (Br.le h (fun hc h=>?_) (fun h=>hR h))
 refine fromE (C:=nT C) hw hx hl (by decide +kernel) (Int.le_refl _) rfl rfl rfl fun k=>?_
 exact hN h
theorem block5 {v1:V} (h:G (if (p.length:Int) < two then (w,false) else (p ++ cps "ent",true)))
 (hN:∀ {x:T} {l:Lc} {c b k:Int},G (x,true)->K .next l ⟨x,c,x.length,0,b,k,some two,some one,some first⟩)
 (hR:∀ {x:T} {l:Lc} {c b k:Int},G (x,false)->K (.ret (.bool false)) l ⟨x,c,x.length,0,b,k,some two,some one,some first⟩) :
 wpSs (nT (nT (nT C))) (n + 1) (ss [.ite (.not_ (.callM .r2 0 (es []))) (ss [.ret (.con (.bool false))]) (ss []),sl "ent"]) [some .self,some v1,none,none,none,none,none,none,none,none,none,none,none] ⟨w,p.length,w.length,0,p.length,w.length,some two,some one,some first⟩ K:=by
 refine r2_W ?_
 refine Br.not (Br.le h (fun hc h=>?_) (fun h=>hR h))
 refine fromE (C:=nT C) hw hx hl (by decide +kernel) (Int.le_refl _) rfl rfl rfl fun k=>?_
 exact hN h
theorem block9 {v1:V} (h:G (p ++ cps "eau",true))
 (hN:∀ {x:T} {l:Lc} {c b k:Int},G (x,true)->K .next l ⟨x,c,x.length,0,b,k,some two,some one,some first⟩)
 (hR:∀ {x:T} {l:Lc} {c b k:Int},G (x,false)->K (.ret (.bool false)) l ⟨x,c,x.length,0,b,k,some two,some one,some first⟩) :
 wpSs (nT (nT (nT C))) (n + 1) (ss [sl "eau"]) [some .self,some v1,none,none,none,none,none,none,none,none,none,none,none] ⟨w,p.length,w.length,0,p.length,w.length,some two,some one,some first⟩ K:=by
 refine fromE (C:=nT C) hw hx hl (by decide +kernel) (Int.le_refl _) rfl rfl rfl fun k=>?_
 exact hN h
theorem block10 {v1:V} (h:G (if (p.length:Int) < one then (w,false) else (p ++ cps "al",true)))
 (hN:∀ {x:T} {l:Lc} {c b k:Int},G (x,true)->K .next l ⟨x,c,x.length,0,b,k,some two,some one,some first⟩)
 (hR:∀ {x:T} {l:Lc} {c b k:Int},G (x,false)->K (.ret (.bool false)) l ⟨x,c,x.length,0,b,k,some two,some one,some first⟩) :
 wpSs (nT (nT (nT C))) (n + 1) (ss [.ite (.not_ (.callM .r1 0 (es []))) (ss [.ret (.con (.bool false))]) (ss []),sl "al"]) [some .self,some v1,none,none,none,none,none,none,none,none,none,none,none] ⟨w,p.length,w.length,0,p.length,w.length,some two,some one,some first⟩ K:=by
 refine r1_W ?_
 refine Br.not (Br.le h (fun hc h=>?_) (fun h=>hR h))
 refine fromE (C:=nT C) hw hx hl (by decide +kernel) (Int.le_refl _) rfl rfl rfl fun k=>?_
 exact hN h
theorem block14 {v1:V} (h:G (if (p.length:Int) < first then w else p ++ cps "ant",false))
 (hN:∀ {x:T} {l:Lc} {c b k:Int},G (x,true)->K .next l ⟨x,c,x.length,0,b,k,some two,some one,some first⟩)
 (hR:∀ {x:T} {l:Lc} {c b k:Int},G (x,false)->K (.ret (.bool false)) l ⟨x,c,x.length,0,b,k,some two,some one,some first⟩) :
 wpSs (nT (nT (nT C))) (n + 1) (ss [.ite (.not_ (.callM .rV 0 (es []))) (ss [.ret (.con (.bool false))]) (ss []),sl "ant",.ret (.con (.bool false))]) [some .self,some v1,none,none,none,none,none,none,none,none,none,none,none] ⟨w,p.length,w.length,0,p.length,w.length,some two,some one,some first⟩ K:=by
 refine rV_W ?_
 refine Br.not (Br.le (F:=fun z=>G (z,false)) h (fun hc h=>?_) (fun h=>hR h))
 refine fromE (C:=nT C) hw hx hl (by decide +kernel) (Int.le_refl _) rfl rfl rfl fun k=>?_
 exact hR h
theorem block15 {v1:V} (h:G (if (p.length:Int) < first then w else p ++ cps "ent",false))
 (hN:∀ {x:T} {l:Lc} {c b k:Int},G (x,true)->K .next l ⟨x,c,x.length,0,b,k,some two,some one,some first⟩)
 (hR:∀ {x:T} {l:Lc} {c b k:Int},G (x,false)->K (.ret (.bool false)) l ⟨x,c,x.length,0,b,k,some two,some one,some first⟩) :
 wpSs (nT (nT (nT C))) (n + 1) (ss [.ite (.not_ (.callM .rV 0 (es []))) (ss [.ret (.con (.bool false))]) (ss []),sl "ent",.ret (.con (.bool false))]) [some .self,some v1,none,none,none,none,none,none,none,none,none,none,none] ⟨w,p.length,w.length,0,p.length,w.length,some two,some one,some first⟩ K:=by
 refine rV_W ?_
 refine Br.not (Br.le (F:=fun z=>G (z,false)) h (fun hc h=>?_) (fun h=>hR h))
 refine fromE (C:=nT C) hw hx hl (by decide +kernel) (Int.le_refl _) rfl rfl rfl fun k=>?_
 exact hR h
theorem block12 {v1:V} (h12:one <= two) (h:G (if (p.length:Int) < one then (w,false) else (if (p.length:Int) < two then p ++ cps "eux" else p,true)))
 (hN:∀ {x:T} {l:Lc} {c b k:Int},G (x,true)->K .next l ⟨x,c,x.length,0,b,k,some two,some one,some first⟩)
 (hR:∀ {x:T} {l:Lc} {c b k:Int},G (x,false)->K (.ret (.bool false)) l ⟨x,c,x.length,0,b,k,some two,some one,some first⟩) :
 wpSs (nT (nT (nT C))) (n + 1) (ss [.whl (.con (.bool true)) (ss [.asgn 11 (.bin .Sub (f0 .lim) (f0 .csr)),.try_ (ss [.ite (.not_ (.callM .r2 0 (es []))) (ss [.raise .l0]) (ss []),sd,.brk]) .l0,.asgnF 0 .csr (.bin .Sub (f0 .lim) (.loc 11)),.ite (.not_ (.callM .r1 0 (es []))) (ss [.ret (.con (.bool false))]) (ss []),sl "eux",.brk])]) [some .self,some v1,none,none,none,none,none,none,none,none,none,none,none] ⟨w,p.length,w.length,0,p.length,w.length,some two,some one,some first⟩ K:=by
 refine WW.step ?_
 refine Br.tr ?_
 refine r2_W ?_
 refine Br.not (Br.dec (fun hc=>?_) (fun hc=>?_))
 ·rw [if_neg (by lia),if_neg (by lia)] at h
  refine delE (C:=C) hw hx hl (Int.le_refl _) rfl rfl rfl fun k=>?_
  exact hN h
 ·rw [if_pos (show (p.length:Int) < two by lia)] at h
  refine r1_W ?_
  refine Br.not (Br.dec (fun hd=>?_) (fun hd=>?_))
  ·rw [if_neg (by lia)] at h
   refine fromE (C:=nT C) hw hx hl (by decide +kernel) (by lia) rfl rfl rfl fun k=>?_
   exact hN h
  ·rw [if_pos (by lia)] at h
   exact hR h
theorem block11 {v1:V} (hT:C.tab = tabV) (h:G (if ouxL.contains (slice p (some (-1)) none) = true then (p ++ cps "ou",true) else (w,false)))
 (hN:∀ {x:T} {l:Lc} {c b k:Int},G (x,true)->K .next l ⟨x,c,x.length,0,b,k,some two,some one,some first⟩)
 (hR:∀ {x:T} {l:Lc} {c b k:Int},G (x,false)->K (.ret (.bool false)) l ⟨x,c,x.length,0,b,k,some two,some one,some first⟩) :
 wpSs (nT (nT (nT C))) (n + 1) (ss [.ite (.not_ (.callM .in_grouping_b 0 (es [(.tab .oux)]))) (ss [.ret (.con (.bool false))]) (ss []),sl "ou"]) [some .self,some v1,none,none,none,none,none,none,none,none,none,none,none] ⟨w,p.length,w.length,0,p.length,w.length,some two,some one,some first⟩ K:=by
 have hon:ouxL.contains [] = false:=by decide +kernel
 conv=>whnf
 rw [show (nT (nT (nT C))).tab .oux = .set ouxL by rw [show (nT (nT (nT C))).tab = tabV from hT]; rfl]
 rcases last_cases p with z | ⟨q,c,z⟩
 ·rw [z] at h
  rw [if_neg (by decide +kernel)] at h
  refine inB_nil (C:=nT (nT C)) (by rw [z]; exact Int.le_refl _) ?_
  refine Br.tr ?_
  exact hR h
 ·have hpl:(p.length:Int) = q.length + 1:=by rw [z,List.length_append]; rfl
  have e:=at_back (cur:=w) (p:=q) (r:=x) (c:=c) (csr:=p.length) (by rw [hw,z]) hpl
  rw [show slice p (some (-1)) none = [c] by rw [z]; exact lastS_cons q c] at h
  cases hc:ouxL.contains [c] with
  | true =>
   rw [if_pos hc] at h
   refine inB_y (C:=nT (nT C)) (by lia) e hc ?_
   refine Br.fa ?_
   refine fromE (C:=nT C) hw hx hl (by decide +kernel) (by lia) rfl rfl rfl fun k=>?_
   exact hN h
  | false =>
   rw [if_neg (by rw [hc]; exact fT)] at h
   refine inB_n (C:=nT (nT C)) (by lia) e hc ?_
   refine Br.tr ?_
   exact hR h
theorem block13 {v1:V} (hT:C.tab = tabV) (h:G (if (p.length:Int) < one then (w,false) else if p = cps "" then (w,false) else if gvL.contains (lastS p) = true then (w,false) else (p,true)))
 (hN:∀ {x:T} {l:Lc} {c b k:Int},G (x,true)->K .next l ⟨x,c,x.length,0,b,k,some two,some one,some first⟩)
 (hR:∀ {x:T} {l:Lc} {c b k:Int},G (x,false)->K (.ret (.bool false)) l ⟨x,c,x.length,0,b,k,some two,some one,some first⟩) :
 wpSs (nT (nT (nT C))) (n + 1) (ss [.ite (.not_ (.callM .r1 0 (es []))) (ss [.ret (.con (.bool false))]) (ss []),.ite (.not_ (.callM .out_grouping_b 0 (es [(.tab .gv)]))) (ss [.ret (.con (.bool false))]) (ss []),sd]) [some .self,some v1,none,none,none,none,none,none,none,none,none,none,none] ⟨w,p.length,w.length,0,p.length,w.length,some two,some one,some first⟩ K:=by
 refine r1_W ?_
 refine Br.not (Br.le h (fun hc h=>?_) (fun h=>hR h))
 conv=>whnf
 rw [show (nT (nT (nT C))).tab .gv = .set gvL by rw [show (nT (nT (nT C))).tab = tabV from hT]; rfl]
 rcases last_cases p with z | ⟨q,c,z⟩
 ·rw [if_pos (show p = cps "" from z)] at h
  refine outB_nil (C:=nT (nT C)) (by rw [z]; exact Int.le_refl _) ?_
  refine Br.tr ?_
  exact hR h
 ·have hpl:(p.length:Int) = q.length + 1:=by rw [z,List.length_append]; rfl
  have e:=at_back (cur:=w) (p:=q) (r:=x) (c:=c) (csr:=p.length) (by rw [hw,z]) hpl
  rw [if_neg (show ¬ p = cps "" by rw [z]; exact fun y=>by have:=congrArg List.length y; rw [List.length_append] at this; exact absurd this (by rw [show (cps "").length = 0 by decide +kernel,List.length_singleton]; lia)),show lastS p = [c] by rw [z]; exact lastS_cons q c] at h
  cases hc:gvL.contains [c] with
  | true =>
   rw [if_pos hc] at h
   refine outB_n (C:=nT (nT C)) (by lia) e hc ?_
   refine Br.tr ?_
   exact hR h
  | false =>
   rw [if_neg (by rw [hc]; exact fT)] at h
   refine outB_y (C:=nT (nT C)) (by lia) e hc ?_
   refine Br.fa ?_
   refine delE (C:=C) hw hx hl (by lia) rfl rfl rfl fun k=>?_
   exact hN h
theorem block16 {v1:V} (hT:C.tab = tabV) (h:G (if gvL.contains (slice p (some (-1)) none) = true then (if (p.length:Int) > first then p else w) else w,false))
 (hN:∀ {x:T} {l:Lc} {c b k:Int},G (x,true)->K .next l ⟨x,c,x.length,0,b,k,some two,some one,some first⟩)
 (hR:∀ {x:T} {l:Lc} {c b k:Int},G (x,false)->K (.ret (.bool false)) l ⟨x,c,x.length,0,b,k,some two,some one,some first⟩) :
 wpSs (nT (nT (nT C))) (n + 1) (ss [.asgn 12 (.bin .Sub (f0 .lim) (f0 .csr)),.ite (.not_ (.callM .in_grouping_b 0 (es [(.tab .gv)]))) (ss [.ret (.con (.bool false))]) (ss []),.ite (.not_ (.callM .rV 0 (es []))) (ss [.ret (.con (.bool false))]) (ss []),.asgnF 0 .csr (.bin .Sub (f0 .lim) (.loc 12)),sd,.ret (.con (.bool false))]) [some .self,some v1,none,none,none,none,none,none,none,none,none,none,none] ⟨w,p.length,w.length,0,p.length,w.length,some two,some one,some first⟩ K:=by
 conv=>whnf
 rw [show (nT (nT (nT C))).tab .gv = .set gvL by rw [show (nT (nT (nT C))).tab = tabV from hT]; rfl]
 rcases last_cases p with z | ⟨q,c,z⟩
 ·rw [if_neg (by rw [z]; decide +kernel)] at h
  refine inB_nil (C:=nT (nT C)) (by rw [z]; exact Int.le_refl _) ?_
  refine Br.tr ?_
  exact hR h
 ·have hpl:(p.length:Int) = q.length + 1:=by rw [z,List.length_append]; rfl
  have e:=at_back (cur:=w) (p:=q) (r:=x) (c:=c) (csr:=p.length) (by rw [hw,z]) hpl
  rw [show slice p (some (-1)) none = [c] by rw [z]; exact lastS_cons q c] at h
  cases hc:gvL.contains [c] with
  | true =>
   rw [if_pos hc] at h
   refine inB_y (C:=nT (nT C)) (by lia) e hc ?_
   refine Br.fa ?_
   refine rV_W ?_
   refine Br.not (Br.dec (fun hd=>?_) (fun hd=>?_))
   ·rw [if_pos (by lia)] at h
    refine delE (C:=C) hw hx hl (by lia) rfl rfl rfl fun k=>?_
    exact hR h
   ·rw [if_neg (by lia)] at h
    exact hR h
  | false =>
   rw [if_neg (by rw [hc]; exact fT)] at h
   refine inB_n (C:=nT (nT C)) (by lia) e hc ?_
   refine Br.tr ?_
   exact hR h
end
section
variable {C:Tbl} {first one two:Int} {n:Nat} {K:QS}
theorem set_at {l:Lc} {j:Nat} {v:Option V} (h:j < l.length):(l.set j v)[j]?.join = v:=by rw [List.getElem?_set_self h]; rfl
theorem choice {l:Lc} {j:Nat} {w q x y:T} {F:T->Prop} (hj:j < l.length) (hw:w = q ++ x) (hx:0 < x.length) (hl:w.length <= 900) (hy:y.length <= 10) (h:F (if (q.length:Int) < two then q ++ y else q))
 (hF:∀ {z:T} {l:Lc} {c b k:Int},F z->K .next l ⟨z,c,z.length,0,b,k,some two,some one,some first⟩) :
 WW (wpE (nT (nT (nT C))) (.con (.bool true))) (wpSs (nT (nT (nT C))) (n + 1) (ss [.asgn (j + 1) (.bin .Sub (f0 .lim) (f0 .csr)),.try_ (ss [.ite (.not_ (.callM .r2 0 (es []))) (ss [.raise .l1]) (ss []),sd,.brk]) .l1,.asgnF 0 .csr (.bin .Sub (f0 .lim) (.loc (j + 1))),.expr (.callM .slice_from 0 (es [(.con (.str y))])),.brk])) (n + 1) (some .self :: l) ⟨w,q.length,w.length,0,q.length,w.length,some two,some one,some first⟩ K:=by
 refine WW.step ?_
 refine Br.tr ?_
 refine r2_W ?_
 refine Br.not (Br.le (F:=F) h (fun hc h=>?_) (fun h=>?_))
 ·conv=>whnf
  refine delE (C:=C) hw hx hl (Int.le_refl _) rfl rfl rfl fun k=>?_
  exact hF h
 ·conv=>whnf
  rw [set_at (l:=some V.self :: l) (j:=j + 1) (Nat.succ_lt_succ hj)]
  refine fromE (C:=nT C) hw hx hl hy (by lia) rfl rfl rfl fun k=>?_
  exact hF h
end
section
variable {C:Tbl} {w p x:T} {first one two:Int} {n:Nat} {K:QS} {G:T × Bool->Prop} (hw:w = p ++ x) (hx:0 < x.length) (hl:w.length <= 900)
include hw hx hl
theorem block2 {v1:V} (h:G (if (p.length:Int) < two then (w,false) else (icS p two,true)))
 (hN:∀ {x:T} {l:Lc} {c b k:Int},G (x,true)->K .next l ⟨x,c,x.length,0,b,k,some two,some one,some first⟩)
 (hR:∀ {x:T} {l:Lc} {c b k:Int},G (x,false)->K (.ret (.bool false)) l ⟨x,c,x.length,0,b,k,some two,some one,some first⟩) :
 wpSs (nT (nT (nT C))) (n + 1 + 1) (ss [.ite (.not_ (.callM .r2 0 (es []))) (ss [.ret (.con (.bool false))]) (ss []),sd,.asgn 2 (.bin .Sub (f0 .lim) (f0 .csr)),.try_ (ss [.asgnF 0 .ket (f0 .csr),.ite (.not_ (.callM .eq_s_b 0 (es [(cs "ic")]))) (ss [.asgnF 0 .csr (.bin .Sub (f0 .lim) (.loc 2)),.raise .l0]) (ss []),.asgnF 0 .bra (f0 .csr),.whl (.con (.bool true)) (ss [.asgn 3 (.bin .Sub (f0 .lim) (f0 .csr)),.try_ (ss [.ite (.not_ (.callM .r2 0 (es []))) (ss [.raise .l1]) (ss []),sd,.brk]) .l1,.asgnF 0 .csr (.bin .Sub (f0 .lim) (.loc 3)),sl "iqU",.brk])]) .l0]) [some .self,some v1,none,none,none,none,none,none,none,none,none,none,none] ⟨w,p.length,w.length,0,p.length,w.length,some two,some one,some first⟩ K:=by
 have hpl:p.length <= 900:=by rw [hw,List.length_append] at hl; lia
 refine r2_W ?_
 refine Br.not (Br.le h (fun hc h=>?_) (fun h=>hR h))
 clear hR
 refine delE (C:=C) hw hx hl (Int.le_refl _) rfl rfl rfl fun k=>?_
 clear hw hx hl
 refine eqB_W (C:=nT (nT C)) (pre:=p) (suf:=[]) (List.append_nil _).symm rfl (fun hs=>?_) (fun hs=>?_)
 ·obtain ⟨q,hq⟩:=suf_ex hs
  rw [hq,ic_yes] at h
  have hql:(p.length:Int) - ((cps "ic").length:Nat) = q.length:=by rw [hq,List.length_append]; lia
  refine Br.fa ?_
  rw [hql]
  refine choice (C:=C) (F:=fun z=>G (z,true)) ?_ hq (by decide +kernel) hpl (by decide +kernel) h (fun h=>hN h)
  refine Nat.lt_of_lt_of_le (m:=12) ?_ (Nat.le_refl 12)
  decide
 ·rw [ic_no hs] at h
  refine Br.tr ?_
  exact hN h
theorem block8 {v1:V} (h:G (if (p.length:Int) < two then (w,false) else (ifS p two,true)))
 (hN:∀ {x:T} {l:Lc} {c b k:Int},G (x,true)->K .next l ⟨x,c,x.length,0,b,k,some two,some one,some first⟩)
 (hR:∀ {x:T} {l:Lc} {c b k:Int},G (x,false)->K (.ret (.bool false)) l ⟨x,c,x.length,0,b,k,some two,some one,some first⟩) :
 wpSs (nT (nT (nT C))) (n + 1 + 1) (ss [.ite (.not_ (.callM .r2 0 (es []))) (ss [.ret (.con (.bool false))]) (ss []),sd,.asgn 9 (.bin .Sub (f0 .lim) (f0 .csr)),.try_ (ss [.asgnF 0 .ket (f0 .csr),.ite (.not_ (.callM .eq_s_b 0 (es [(cs "at")]))) (ss [.asgnF 0 .csr (.bin .Sub (f0 .lim) (.loc 9)),.raise .l0]) (ss []),.asgnF 0 .bra (f0 .csr),.ite (.not_ (.callM .r2 0 (es []))) (ss [.asgnF 0 .csr (.bin .Sub (f0 .lim) (.loc 9)),.raise .l0]) (ss []),sd,.asgnF 0 .ket (f0 .csr),.ite (.not_ (.callM .eq_s_b 0 (es [(cs "ic")]))) (ss [.asgnF 0 .csr (.bin .Sub (f0 .lim) (.loc 9)),.raise .l0]) (ss []),.asgnF 0 .bra (f0 .csr),.whl (.con (.bool true)) (ss [.asgn 10 (.bin .Sub (f0 .lim) (f0 .csr)),.try_ (ss [.ite (.not_ (.callM .r2 0 (es []))) (ss [.raise .l1]) (ss []),sd,.brk]) .l1,.asgnF 0 .csr (.bin .Sub (f0 .lim) (.loc 10)),sl "iqU",.brk])]) .l0]) [some .self,some v1,none,none,none,none,none,none,none,none,none,none,none] ⟨w,p.length,w.length,0,p.length,w.length,some two,some one,some first⟩ K:=by
 have hpl:p.length <= 900:=by rw [hw,List.length_append] at hl; lia
 refine r2_W ?_
 refine Br.not (Br.le h (fun hc h=>?_) (fun h=>hR h))
 clear hR
 refine delE (C:=C) hw hx hl (Int.le_refl _) rfl rfl rfl fun k=>?_
 clear hw hx hl
 refine eqB_W (C:=nT (nT C)) (pre:=p) (suf:=[]) (List.append_nil _).symm rfl (fun hs=>?_) (fun hs=>?_)
 ·obtain ⟨r,hr⟩:=suf_ex hs
  rw [hr,if_yes] at h
  have hrl:(p.length:Int) - ((cps "at").length:Nat) = r.length:=by rw [hr,List.length_append]; lia
  have hrp:r.length <= 900:=by rw [hr,List.length_append] at hpl; lia
  refine Br.fa ?_
  rw [hrl]
  refine r2_W ?_
  refine Br.not (Br.le (F:=fun z=>G (z,true)) h (fun hc h=>?_) (fun h=>?_))
  ·conv=>whnf
   refine delE (C:=C) hr (by decide +kernel) hpl (Int.le_refl _) rfl rfl rfl fun k=>?_
   refine eqB_W (C:=nT (nT C)) (pre:=r) (suf:=[]) (List.append_nil _).symm rfl (fun hs=>?_) (fun hs=>?_)
   ·obtain ⟨q,hq⟩:=suf_ex hs
    rw [hq,ic_yes] at h
    have hql:(r.length:Int) - ((cps "ic").length:Nat) = q.length:=by rw [hq,List.length_append]; lia
    refine Br.fa ?_
    rw [hql]
    refine choice (C:=C) (F:=fun z=>G (z,true)) ?_ hq (by decide +kernel) hrp (by decide +kernel) h (fun h=>hN h)
    refine Nat.lt_of_lt_of_le (m:=12) ?_ (Nat.le_refl 12)
    decide
   ·rw [ic_no hs] at h
    refine Br.tr ?_
    exact hN h
  ·rw [<- hr] at h
   exact hN h
 ·rw [if_no hs] at h
  refine Br.tr ?_
  exact hN h
theorem block7 {v1:V} (hT:C.tab = tabV) (hC:C.loose = true) (h:G (if (p.length:Int) < two then (w,false) else (abilS p two,true)))
 (hN:∀ {x:T} {l:Lc} {c b k:Int},G (x,true)->K .next l ⟨x,c,x.length,0,b,k,some two,some one,some first⟩)
 (hR:∀ {x:T} {l:Lc} {c b k:Int},G (x,false)->K (.ret (.bool false)) l ⟨x,c,x.length,0,b,k,some two,some one,some first⟩) :
 wpSs (nT (nT (nT C))) (n + 1 + 1) (ss [.ite (.not_ (.callM .r2 0 (es []))) (ss [.ret (.con (.bool false))]) (ss []),sd,.asgn 6 (.bin .Sub (f0 .lim) (f0 .csr)),.try_ (ss [.asgnF 0 .ket (f0 .csr),.asgn 1 (.callM .find_among_b 0 (es [(.tab .a3)])),.ite (.cmp .Eq (.loc 1) (cI 0)) (ss [.asgnF 0 .csr (.bin .Sub (f0 .lim) (.loc 6)),.raise .l0]) (ss []),.asgnF 0 .bra (f0 .csr),.ite (.cmp .Eq (.loc 1) (cI 1)) (ss [.whl (.con (.bool true)) (ss [.asgn 7 (.bin .Sub (f0 .lim) (f0 .csr)),.try_ (ss [.ite (.not_ (.callM .r2 0 (es []))) (ss [.raise .l1]) (ss []),sd,.brk]) .l1,.asgnF 0 .csr (.bin .Sub (f0 .lim) (.loc 7)),sl "abl",.brk])]) (ss [.ite (.cmp .Eq (.loc 1) (cI 2)) (ss [.whl (.con (.bool true)) (ss [.asgn 8 (.bin .Sub (f0 .lim) (f0 .csr)),.try_ (ss [.ite (.not_ (.callM .r2 0 (es []))) (ss [.raise .l1]) (ss []),sd,.brk]) .l1,.asgnF 0 .csr (.bin .Sub (f0 .lim) (.loc 8)),sl "iqU",.brk])]) (ss [.ite (.not_ (.callM .r2 0 (es []))) (ss [.asgnF 0 .csr (.bin .Sub (f0 .lim) (.loc 6)),.raise .l0]) (ss []),sd])])]) .l0]) [some .self,some v1,none,none,none,none,none,none,none,none,none,none,none] ⟨w,p.length,w.length,0,p.length,w.length,some two,some one,some first⟩ K:=by
 have hpl:p.length <= 900:=by rw [hw,List.length_append] at hl; lia
 refine r2_W ?_
 refine Br.not (Br.le h (fun hc h=>?_) (fun h=>hR h))
 clear hR
 refine delE (C:=C) hw hx hl (Int.le_refl _) rfl rfl rfl fun k=>?_
 clear hw hx hl
 conv=>whnf
 rw [show (nT (nT (nT C))).tab .a3 = .list (t3L.map amV) by rw [show (nT (nT (nT C))).tab = tabV from hT]; rfl]
 refine amongB_W (C:=nT (nT C)) (a:=[]) (b:=p) (suf:=[]) hC ok3 (List.append_nil _).symm rfl rfl (fun h0=>?_) (fun q e hb=>?_)
 ·rw [abil_no h0] at h
  refine Br.tr ?_
  exact hN h
 obtain ⟨e1,e2,e3,e4⟩:=abil_yes (t:=two) hb
 rw [e1] at h
 have hq:=hb.eq
 have hql:(p.length:Int) - (e.1.length:Nat) = q.length:=by rw [hq,List.length_append]; lia
 rw [hql]
 obtain ⟨y,i,k⟩:=e
 simp only at hq e2 e3 e4 h ⊢
 clear hb hql e1
 unfold abilR at h
 refine Br.no (by lia) ?_
 refine Br.by (F:=fun z=>G (z,true)) h (fun c1 h=>?_) (fun c1 h=>?_)
 ·conv=>whnf
  refine choice (C:=C) (F:=fun z=>G (z,true)) ?_ hq e2 hpl (by decide +kernel) h (fun h=>hN h)
  refine Nat.lt_of_lt_of_le (m:=12) ?_ (Nat.le_refl 12)
  decide
 refine Br.by (F:=fun z=>G (z,true)) h (fun c2 h=>?_) (fun c2 h=>?_)
 ·conv=>whnf
  refine choice (C:=C) (F:=fun z=>G (z,true)) ?_ hq e2 hpl (by decide +kernel) h (fun h=>hN h)
  refine Nat.lt_of_lt_of_le (m:=12) ?_ (Nat.le_refl 12)
  decide
 refine r2_W ?_
 refine Br.not (Br.le (F:=fun z=>G (z,true)) h (fun hc h=>?_) (fun h=>?_))
 ·conv=>whnf
  refine delE (C:=C) hq e2 hpl (Int.le_refl _) rfl rfl rfl fun k=>?_
  exact hN h
 ·exact hN h
theorem block6 {v1:V} (hT:C.tab = tabV) (hC:C.loose = true) (h:G (if (p.length:Int) < first then (w,false) else (adverbS p first one two,true)))
 (hN:∀ {x:T} {l:Lc} {c b k:Int},G (x,true)->K .next l ⟨x,c,x.length,0,b,k,some two,some one,some first⟩)
 (hR:∀ {x:T} {l:Lc} {c b k:Int},G (x,false)->K (.ret (.bool false)) l ⟨x,c,x.length,0,b,k,some two,some one,some first⟩) :
 wpSs (nT (nT (nT C))) (n + 1 + 1) (ss [.ite (.not_ (.callM .rV 0 (es []))) (ss [.ret (.con (.bool false))]) (ss []),sd,.asgn 4 (.bin .Sub (f0 .lim) (f0 .csr)),.try_ (ss [.asgnF 0 .ket (f0 .csr),.asgn 1 (.callM .find_among_b 0 (es [(.tab .a2)])),.ite (.cmp .Eq (.loc 1) (cI 0)) (ss [.asgnF 0 .csr (.bin .Sub (f0 .lim) (.loc 4)),.raise .l0]) (ss []),.asgnF 0 .bra (f0 .csr),.ite (.cmp .Eq (.loc 1) (cI 1)) (ss [.ite (.not_ (.callM .r2 0 (es []))) (ss [.asgnF 0 .csr (.bin .Sub (f0 .lim) (.loc 4)),.raise .l0]) (ss []),sd,.asgnF 0 .ket (f0 .csr),.ite (.not_ (.callM .eq_s_b 0 (es [(cs "at")]))) (ss [.asgnF 0 .csr (.bin .Sub (f0 .lim) (.loc 4)),.raise .l0]) (ss []),.asgnF 0 .bra (f0 .csr),.ite (.not_ (.callM .r2 0 (es []))) (ss [.asgnF 0 .csr (.bin .Sub (f0 .lim) (.loc 4)),.raise .l0]) (ss []),sd]) (ss [.ite (.cmp .Eq (.loc 1) (cI 2)) (ss [.whl (.con (.bool true)) (ss [.asgn 5 (.bin .Sub (f0 .lim) (f0 .csr)),.try_ (ss [.ite (.not_ (.callM .r2 0 (es []))) (ss [.raise .l1]) (ss []),sd,.brk]) .l1,.asgnF 0 .csr (.bin .Sub (f0 .lim) (.loc 5)),.ite (.not_ (.callM .r1 0 (es []))) (ss [.asgnF 0 .csr (.bin .Sub (f0 .lim) (.loc 4)),.raise .l0]) (ss []),sl "eux",.brk])]) (ss [.ite (.cmp .Eq (.loc 1) (cI 3)) (ss [.ite (.not_ (.callM .r2 0 (es []))) (ss [.asgnF 0 .csr (.bin .Sub (f0 .lim) (.loc 4)),.raise .l0]) (ss []),sd]) (ss [.ite (.not_ (.callM .rV 0 (es []))) (ss [.asgnF 0 .csr (.bin .Sub (f0 .lim) (.loc 4)),.raise .l0]) (ss []),sl "i"])])])]) .l0]) [some .self,some v1,none,none,none,none,none,none,none,none,none,none,none] ⟨w,p.length,w.length,0,p.length,w.length,some two,some one,some first⟩ K:=by
 have hpl:p.length <= 900:=by rw [hw,List.length_append] at hl; lia
 refine rV_W ?_
 refine Br.not (Br.le h (fun hc h=>?_) (fun h=>hR h))
 clear hR
 refine delE (C:=C) hw hx hl (Int.le_refl _) rfl rfl rfl fun k=>?_
 clear hw hx hl
 conv=>whnf
 rw [show (nT (nT (nT C))).tab .a2 = .list (t2L.map amV) by rw [show (nT (nT (nT C))).tab = tabV from hT]; rfl]
 refine amongB_W (C:=nT (nT C)) (a:=[]) (b:=p) (suf:=[]) hC ok2 (List.append_nil _).symm rfl rfl (fun h0=>?_) (fun q e hb=>?_)
 ·rw [adverb_no h0] at h
  refine Br.tr ?_
  exact hN h
 obtain ⟨e1,e2,e3,e4⟩:=adverb_yes (f:=first) (o:=one) (t:=two) hb
 rw [e1] at h
 have hq:=hb.eq
 have hql:(p.length:Int) - (e.1.length:Nat) = q.length:=by rw [hq,List.length_append]; lia
 rw [hql]
 have hqp:q.length <= 900:=by rw [hq,List.length_append] at hpl; lia
 obtain ⟨y,i,k⟩:=e
 simp only at hq e2 e3 e4 h ⊢
 clear hb hql e1
 unfold advR at h
 refine Br.no (by lia) ?_
 refine Br.by (F:=fun z=>G (z,true)) h (fun c1 h=>?_) (fun c1 h=>?_)
 ·conv=>whnf
  refine r2_W ?_
  refine Br.not (Br.le (F:=fun z=>G (z,true)) h (fun hc h=>?_) (fun h=>hN h))
  refine delE (C:=C) hq e2 hpl (Int.le_refl _) rfl rfl rfl fun k=>?_
  refine eqB_W (C:=nT (nT C)) (pre:=q) (suf:=[]) (List.append_nil _).symm rfl (fun hs=>?_) (fun hs=>?_)
  ·obtain ⟨r,hr⟩:=suf_ex hs
   rw [hr,less_yes (by decide +kernel)] at h
   have hrl:(q.length:Int) - ((cps "at").length:Nat) = r.length:=by rw [hr,List.length_append]; lia
   refine Br.fa ?_
   rw [hrl]
   refine r2_W ?_
   refine Br.not (Br.le (F:=fun z=>G (z,true)) h (fun hc h=>?_) (fun h=>?_))
   ·conv=>whnf
    refine delE (C:=C) hr (by decide +kernel) hqp (Int.le_refl _) rfl rfl rfl fun k=>?_
    exact hN h
   ·rw [<- hr] at h
    exact hN h
  ·rw [less_no (by decide +kernel) hs] at h
   refine Br.tr ?_
   exact hN h
 refine Br.by (F:=fun z=>G (z,true)) h (fun c2 h=>?_) (fun c2 h=>?_)
 ·conv=>whnf
  refine WW.step ?_
  refine Br.tr ?_
  refine r2_W ?_
  refine Br.not (Br.le (F:=fun z=>G (z,true)) h (fun hc h=>?_) (fun h=>?_))
  ·conv=>whnf
   refine delE (C:=C) hq e2 hpl (Int.le_refl _) rfl rfl rfl fun k=>?_
   exact hN h
  ·conv=>whnf
   rw [show (p.length:Int) - ((p.length:Int) - q.length) = q.length by lia]
   refine r1_W ?_
   refine Br.not (Br.le (F:=fun z=>G (z,true)) h (fun hc h=>?_) (fun h=>hN h))
   refine fromE (C:=nT C) hq e2 hpl (by decide +kernel) (Int.le_refl _) rfl rfl rfl fun k=>?_
   exact hN h
 refine Br.by (F:=fun z=>G (z,true)) h (fun c3 h=>?_) (fun c3 h=>?_)
 ·conv=>whnf
  refine r2_W ?_
  refine Br.not (Br.le (F:=fun z=>G (z,true)) h (fun hc h=>?_) (fun h=>hN h))
  refine delE (C:=C) hq e2 hpl (Int.le_refl _) rfl rfl rfl fun k=>?_
  exact hN h
 ·conv=>whnf
  refine rV_W ?_
  refine Br.not (Br.le (F:=fun z=>G (z,true)) h (fun hc h=>?_) (fun h=>hN h))
  refine fromE (C:=nT C) hq e2 hpl (by decide +kernel) (Int.le_refl _) rfl rfl rfl fun k=>?_
  exact hN h
end
theorem standard_W {C:Tbl} {w:T} {first one two bra ket:Int} {Q:QE} (hT:C.tab = tabV) (hC:C.loose = true) (hl:w.length <= 900) (h12:one <= two)
 (h:∀ c b k,Q (.bool (nounS w first one two).2) ⟨(nounS w first one two).1,c,(nounS w first one two).1.length,0,b,k,some two,some one,some first⟩) :
 WM (nT (nT (nT (nT C)))) .standard [] ⟨w,w.length,w.length,0,bra,ket,some two,some one,some first⟩ Q:=by
 generalize hG:(fun z:T × Bool=>∀ c b k,Q (.bool z.2) ⟨z.1,c,z.1.length,0,b,k,some two,some one,some first⟩) = G
 have hQ:∀ {x:T} {d:Bool} {c b k:Int},G (x,d)->Q (.bool d) ⟨x,c,x.length,0,b,k,some two,some one,some first⟩:=fun z=>by rw [<- hG] at z; exact z _ _ _
 have h:G (nounS w first one two):=by rw [<- hG]; exact h
 clear hG
 refine WM.run rfl ?_
 conv=>whnf
 rw [show (nT (nT (nT C))).tab .a4 = .list (t4L.map amV) by rw [show (nT (nT (nT C))).tab = tabV from hT]; rfl]
 unfold nounS at h
 refine amongB_W (C:=nT (nT C)) (a:=[]) (b:=w) (suf:=[]) hC ok4 (List.append_nil _).symm rfl rfl (fun h0=>?_) (fun p e hb=>?_)
 ·rw [end0_no noun_keys h0] at h
  refine Br.tr ?_
  exact hQ h
 obtain ⟨e1,e2,e3,e4⟩:=noun_kinds hb.mem
 have hw:=hb.eq
 have he:endS w nounsK 0 = e.1:=end0_of noun_keys hb e2
 rw [he,e1,if_neg (fun z=>by rw [z] at e2; exact absurd e2 (by decide +kernel)),show cutS w e.1 = p by rw [hw]; exact cut_app _ _] at h
 have hpl:(w.length:Int) - (e.1.length:Nat) = p.length:=by rw [hw,List.length_append]; lia
 rw [hpl]
 obtain ⟨x,i,k⟩:=e
 simp only at hw e2 e3 e4 h ⊢
 clear hb e1 he hpl
 refine Br.no (by lia) ?_
 refine Br.dec (fun c=>?_) (fun c1=>?_)
 ·rw [c,noun1] at h
  exact block1 hw e2 hl h (fun h=>hQ h) (fun h=>hQ h)
 refine Br.dec (fun c=>?_) (fun c2=>?_)
 ·rw [c,noun2] at h
  exact block2 hw e2 hl h (fun h=>hQ h) (fun h=>hQ h)
 refine Br.dec (fun c=>?_) (fun c3=>?_)
 ·rw [c,noun3] at h
  exact block3 hw e2 hl h (fun h=>hQ h) (fun h=>hQ h)
 refine Br.dec (fun c=>?_) (fun c4=>?_)
 ·rw [c,noun4] at h
  exact block4 hw e2 hl h (fun h=>hQ h) (fun h=>hQ h)
 refine Br.dec (fun c=>?_) (fun c5=>?_)
 ·rw [c,noun5] at h
  exact block5 hw e2 hl h (fun h=>hQ h) (fun h=>hQ h)
 refine Br.dec (fun c=>?_) (fun c6=>?_)
 ·rw [c,noun6] at h
  exact block6 hw e2 hl hT hC h (fun h=>hQ h) (fun h=>hQ h)
 refine Br.dec (fun c=>?_) (fun c7=>?_)
 ·rw [c,noun7] at h
  exact block7 hw e2 hl hT hC h (fun h=>hQ h) (fun h=>hQ h)
 refine Br.dec (fun c=>?_) (fun c8=>?_)
 ·rw [c,noun8] at h
  exact block8 hw e2 hl h (fun h=>hQ h) (fun h=>hQ h)
 refine Br.dec (fun c=>?_) (fun c9=>?_)
 ·rw [c,noun9] at h
  exact block9 hw e2 hl h (fun h=>hQ h) (fun h=>hQ h)
 refine Br.dec (fun c=>?_) (fun c10=>?_)
 ·rw [c,noun10] at h
  exact block10 hw e2 hl h (fun h=>hQ h) (fun h=>hQ h)
 refine Br.dec (fun c=>?_) (fun c11=>?_)
 ·rw [c,noun11] at h
  exact block11 hw e2 hl hT h (fun h=>hQ h) (fun h=>hQ h)
 refine Br.dec (fun c=>?_) (fun c12=>?_)
 ·rw [c,noun12,hw,or_app,<- hw] at h
  exact block12 hw e2 hl h12 h (fun h=>hQ h) (fun h=>hQ h)
 refine Br.dec (fun c=>?_) (fun c13=>?_)
 ·rw [c,noun13] at h
  exact block13 hw e2 hl hT h (fun h=>hQ h) (fun h=>hQ h)
 refine Br.dec (fun c=>?_) (fun c14=>?_)
 ·rw [c,noun14] at h
  exact block14 hw e2 hl h (fun h=>hQ h) (fun h=>hQ h)
 refine Br.dec (fun c=>?_) (fun c15=>?_)
 ·rw [c,noun15] at h
  exact block15 hw e2 hl h (fun h=>hQ h) (fun h=>hQ h)
 have c:k = 16:=by lia
 rw [c,noun16] at h
 exact block16 hw e2 hl hT h (fun h=>hQ h) (fun h=>hQ h)
noncomputable def ivG (e head:T) (f:Int):Option T :=
 if e = cps "" then none
 else if (head.length:Int) > f then (if gvL.contains (lastS head) = true then none else if lastS head = cps "H" then none else some head)
 else none
noncomputable def ivS (w:T) (f:Int):Option T:=ivG (endS w shortL f) (cutS w (endS w shortL f)) f
noncomputable def orO (o o2:Option T):Option T:=match o with
 | some x=>some x
 | none=>o2
theorem verbS_iv (w:T) (f t:Int):verbS w f t = orO (ivS w f) (verb2 w f t):=by
 have d:∀ {c:Prop} [Decidable c] {a b o:Option T},orO (if c then a else b) o = if c then orO a o else orO b o:=fun {c _ a b o}=>by
  by_cases h:c
  ·rw [if_pos h,if_pos h]
  ·rw [if_neg h,if_neg h]
 unfold verbS ivS
 generalize endS w shortL f = e
 generalize cutS w e = head
 unfold verbF ivG
 generalize verb2 w f t = o
 rw [d,d,d,d]; rfl
theorem slice_far {w:T} {f:Nat} (h:w.length <= f):slice w (some (f:Int)) none = []:=by rw [slice_nt,List.drop_of_length_le h]
theorem end_far {w:T} {f:Nat} {tb:List (T × Int × Int)} {l:List T} (hl:l = tb.map (·.1)) (hz:∀ e ∈ tb,0 < e.1.length) (h:w.length <= f):endS w l (f:Int) = cps "":=by
 unfold endS
 rw [slice_far h,hl]
 refine lend_no fun e he=>Bool.eq_false_iff.mpr fun z=>?_
 have:=(List.isSuffixOf_iff_suffix.mp z).length_le
 exact absurd (hz e he) (Nat.not_lt.mpr this)
theorem short_kinds:∀ e ∈ t5L,e.2.2 = 1 /\ 0 < e.1.length:=fun e he=>by
 have h:t5L.all (fun e=>decide (e.2.2 = 1) && decide (0 < e.1.length)) = true:=by decide +kernel
 have:=List.all_eq_true.mp h e he
 rw [Bool.and_eq_true,decide_eq_true_eq,decide_eq_true_eq] at this
 exact this
theorem region {w:T} {f:Nat} (h:f <= w.length):∃ a b,w = a ++ b /\ a.length = f:=⟨w.take f,w.drop f,(List.take_append_drop f w).symm,by rw [List.length_take]; lia⟩
section
variable {C:Tbl} {p2 p1 pV:Option Int} {csr lm lb bra ket:Int} {cur:T} {Q:QE} {n:Nat}
theorem chkb_W {l:Lc} {x:T} (pre suf:T) (hcur:cur = pre ++ suf) (hcsr:csr = pre.length) (hlb:0 <= lb)
 (h1:∀ q c,pre = q ++ [c]->[c] = x->lb < csr->Q (.bool false) ⟨cur,csr,lm,lb,bra,ket,p2,p1,pV⟩) (h0:(∀ q c,pre = q ++ [c]->lb < csr->[c] ≠ x)->Q (.bool true) ⟨cur,csr,lm,lb,bra,ket,p2,p1,pV⟩) :
 Br (decide (csr <= lb)) (Q (.bool true) ⟨cur,csr,lm,lb,bra,ket,p2,p1,pV⟩) (wpB C .Or (es [(.cmp .NotEq (.idx (f0 .cur) (.bin .Sub (f0 .csr) (cI 1))) (.con (.str x)))]) (some .self :: l) ⟨cur,csr,lm,lb,bra,ket,p2,p1,pV⟩ Q):=by
 refine Br.dec (fun z=>h0 fun q c e z2=>absurd z2 (by lia)) (fun z=>?_)
 rcases last_cases pre with e | ⟨q,c,e⟩
 ·rw [e] at hcsr; exact absurd (show csr <= lb by rw [hcsr]; exact hlb) z
 ·have hq:csr = q.length + 1:=by rw [hcsr,e,List.length_append]; rfl
  refine Idx.of (at_back (p:=q) (r:=suf) (c:=c) (by rw [hcur,e]) hq) ?_
  conv=>whnf
  by_cases hc:[c] = x
  ·rw [decide_eq_true hc]; exact h1 q c e hc (by lia)
  ·rw [decide_eq_false hc]
   refine h0 fun q' c' e' _=>?_
   rw [e] at e'
   rw [<- (List.append_inj' e' rfl).2]; exact hc
end
section
variable {C:Tbl} {one two bra ket:Int} {w:T} {f:Nat} {Q:QE} {H:Option T->Prop}
theorem i_verb_W (hT:C.tab = tabV) (hC:C.loose = true) (hl:w.length <= 900) (h:H (ivS w f))
 (hS:∀ {x:T} {c b k:Int},H (some x)->Q (.bool true) ⟨x,c,x.length,0,b,k,some two,some one,some (f:Int)⟩) (hN:∀ {c b k:Int},H none->Q (.bool false) ⟨w,c,w.length,0,b,k,some two,some one,some (f:Int)⟩) :
 WM (nT (nT (nT (nT C)))) .i_verb [] ⟨w,w.length,w.length,0,bra,ket,some two,some one,some (f:Int)⟩ Q:=by
 unfold ivS at h
 refine WM.run rfl ?_
 refine Br.dec (fun hf=>?_) (fun hf=>?_)
 ·rw [end_far short_keys (fun e he=>(short_kinds e he).2) (by lia)] at h
  exact hN h
 obtain ⟨a,b,rfl,ha⟩:=region (show f <= w.length by lia)
 rw [<- ha] at h hS hN ⊢
 clear hf
 conv=>whnf
 rw [show (nT (nT (nT C))).tab .a5 = .list (t5L.map amV) by rw [show (nT (nT (nT C))).tab = tabV from hT]; rfl]
 refine amongB_W (C:=nT (nT C)) (a:=a) (b:=b) (suf:=[]) hC ok5 (List.append_nil _).symm rfl rfl (fun h0=>?_) (fun p e hb=>?_)
 ·rw [end_no short_keys h0] at h
  refine Br.tr ?_
  exact hN h
 obtain ⟨e1,e2⟩:=short_kinds e hb.mem
 rw [end_of short_keys hb e2] at h
 have hw:a ++ b = a ++ p ++ e.1:=by rw [hb.eq,List.append_assoc]
 have hpl:((a ++ b).length:Int) - (e.1.length:Nat) = (a ++ p).length:=by rw [hw,List.length_append (as:=a ++ p)]; lia
 rw [hpl,e1]
 rw [show cutS (a ++ b) e.1 = a ++ p by rw [hw]; exact cut_app _ _] at h
 unfold ivG at h
 rw [if_neg (fun z=>by rw [z] at e2; exact absurd e2 (by decide +kernel))] at h
 generalize e.1 = x at *
 clear hb e1 hpl ha
 generalize a ++ b = w at *
 generalize a ++ p = head at *
 refine Br.fa ?_
 refine chkb_W head x hw rfl (Int.natCast_nonneg _) (fun q c e z hlt=>?_) (fun hno=>?_)
 ·have hls:lastS head = cps "H":=by rw [e,lastS_cons]; exact z
  rw [hls,if_pos (show (head.length:Int) > (a.length:Nat) from hlt),if_neg (by decide +kernel),if_pos rfl] at h
  refine Br.fa ?_
  exact hN h
 ·conv=>whnf
  refine Br.tr ?_
  conv=>whnf
  rw [show (nT (nT (nT C))).tab .gv = .set gvL by rw [show (nT (nT (nT C))).tab = tabV from hT]; rfl]
  rcases Int.lt_or_le (a.length:Int) (head.length:Int) with hlt | hle
  ·rw [if_pos hlt] at h
   rcases last_cases head with z | ⟨q,c,z⟩
   ·rw [z] at hlt; exact absurd hlt (by simp)
   have hq:(head.length:Int) = q.length + 1:=by rw [z,List.length_append]; rfl
   have e:=at_back (cur:=w) (p:=q) (r:=x) (c:=c) (csr:=head.length) (by rw [hw,z]) hq
   rw [show lastS head = [c] by rw [z]; exact lastS_cons q c] at h
   cases hc:gvL.contains [c] with
   | true =>
    rw [if_pos hc] at h
    refine outB_n (C:=nT (nT C)) hlt e hc ?_
    refine Br.tr ?_
    exact hN h
   | false =>
    rw [if_neg (by rw [hc]; exact fT),if_neg (hno q c z hlt)] at h
    refine outB_y (C:=nT (nT C)) hlt e hc ?_
    refine Br.fa ?_
    refine delE (C:=C) hw e2 hl (by lia) rfl rfl rfl fun k=>?_
    exact hS h
  ·rw [if_neg (Int.not_lt.mpr hle)] at h
   refine outB_nil (C:=nT (nT C)) hle ?_
   refine Br.tr ?_
   exact hN h
end
theorem flip_ge {α:Type} {a b:Int} {x y:α}:(if a >= b then x else y) = if a < b then y else x:=by
 split
 ·rw [if_neg (by lia)]
 ·rw [if_pos (by lia)]
theorem al_kinds:∀ e ∈ t6L,0 < e.1.length /\ ((e.1 = cps "al" /\ e.2.2 = 1 /\ [cps "épl",cps "auv"].contains e.1 = false) \/ (e.2.2 = -1 /\ [cps "épl",cps "auv"].contains e.1 = true)):=fun e he=>by
 have h:t6L.all (fun e=>decide (0 < e.1.length) && ((decide (e.1 = cps "al") && decide (e.2.2 = 1) && ![cps "épl",cps "auv"].contains e.1) || (decide (e.2.2 = -1) && [cps "épl",cps "auv"].contains e.1))) = true:=by decide +kernel
 have:=List.all_eq_true.mp h e he
 simpa [-List.contains_eq_mem,-List.contains_cons,and_assoc] using this
section
variable {C:Tbl} {one two bra ket:Int} {w:T} {f:Nat} {Q:QE} {H:Option T->Prop}
theorem verbM_W (hT:C.tab = tabV) (hC:C.loose = true) (hl:w.length <= 900) (h:H (verb2 w f two))
 (hS:∀ {x:T} {c b k:Int},H (some x)->Q (.bool true) ⟨x,c,x.length,0,b,k,some two,some one,some (f:Int)⟩) (hN:∀ {c b k:Int},H none->Q (.bool false) ⟨w,c,w.length,0,b,k,some two,some one,some (f:Int)⟩) :
 WM (nT (nT (nT (nT C)))) .verb [] ⟨w,w.length,w.length,0,bra,ket,some two,some one,some (f:Int)⟩ Q:=by
 unfold verb2 at h
 refine WM.run rfl ?_
 refine Br.dec (fun hf=>?_) (fun hf=>?_)
 ·rw [end_far verb_keys (fun e he=>(verb_kinds he).2.1) (by lia),if_pos rfl] at h
  exact hN h
 obtain ⟨a,b,rfl,ha⟩:=region (show f <= w.length by lia)
 rw [<- ha] at h hS hN ⊢
 clear hf
 conv=>whnf
 rw [show (nT (nT (nT C))).tab .a7 = .list (t7L.map amV) by rw [show (nT (nT (nT C))).tab = tabV from hT]; rfl]
 refine amongB_W (C:=nT (nT C)) (a:=a) (b:=b) (suf:=[]) hC ok7 (List.append_nil _).symm rfl rfl (fun h0=>?_) (fun p e hb=>?_)
 ·rw [end_no verb_keys h0,if_pos (show ([]:T) = cps "" from rfl)] at h
  refine Br.tr ?_
  exact hN h
 obtain ⟨e1,e2,e3,e4⟩:=verb_kinds hb.mem
 rw [end_of verb_keys hb e2,e1,if_neg (fun z=>by rw [z] at e2; exact absurd e2 (by decide +kernel))] at h
 have hw:a ++ b = a ++ p ++ e.1:=by rw [hb.eq,List.append_assoc]
 have hpl:((a ++ b).length:Int) - (e.1.length:Nat) = (a ++ p).length:=by rw [hw,List.length_append (as:=a ++ p)]; lia
 rw [hpl]
 rw [show cutS (a ++ b) e.1 = a ++ p by rw [hw]; exact cut_app _ _] at h
 obtain ⟨x,i,k⟩:=e
 simp only at hw e2 e3 e4 h ⊢
 clear hb e1 hpl ha
 generalize a ++ b = w at *
 generalize a ++ p = head at *
 unfold verbG at h
 refine Br.no (by lia) ?_
 refine Br.by h (fun c1 h=>?_) (fun c1 h=>?_)
 ·rw [flip_ge] at h
  refine r2_W ?_
  refine Br.not (Br.le h (fun hc h=>?_) (fun h=>hN h))
  refine delE (C:=C) hw e2 hl (Int.le_refl _) rfl rfl rfl fun k=>?_
  exact hS h
 refine Br.dec (fun c2=>?_) (fun c2=>?_)
 ·rw [if_neg (by lia),if_neg (by lia)] at h
  refine delE (C:=C) hw e2 hl (Int.le_refl _) rfl rfl rfl fun k=>?_
  exact hS h
 refine Br.by h (fun c3 h=>?_) (fun c3 h=>?_)
 ·conv=>whnf
  refine chkb_W head x hw rfl (Int.le_refl _) (fun q c z1 z2 hlt=>?_) (fun hno=>?_)
  ·have hq:(head.length:Int) = q.length + 1:=by rw [z1,List.length_append]; rfl
   have hw2:w = q ++ ([c] ++ x):=by rw [hw,z1,List.append_assoc]
   rw [show slice head (some (-1)) none = cps "e" by rw [z1]; exact (lastS_cons q c).trans z2,if_pos rfl,show slice head none (some (-1)) = q by rw [z1]; exact chop_snoc q c] at h
   refine Br.fa ?_
   refine rV_W ?_
   refine Br.not (Br.dec (fun hc=>?_) (fun hc=>?_))
   ·rw [if_pos (by lia)] at h
    refine delE (C:=C) hw2 (by simp) hl (by lia) rfl rfl (by lia) fun k=>?_
    exact hS h
   ·rw [if_neg (by lia)] at h
    refine delE (C:=C) hw e2 hl (by lia) rfl rfl rfl fun k=>?_
    exact hS h
  ·have hne:¬ slice head (some (-1)) none = cps "e":=fun z=>by
    rcases last_cases head with y | ⟨q,c,y⟩
    ·rw [y] at z; exact absurd z (by decide +kernel)
    ·refine hno q c y (by rw [y,List.length_append,List.length_singleton]; lia) ?_
     rw [<- z,y]; exact (lastS_cons q c).symm
   rw [if_neg hne] at h
   refine Br.tr ?_
   refine delE (C:=C) hw e2 hl (by lia) rfl rfl rfl fun k=>?_
   exact hS h
 rw [if_pos (show k = 4 by lia)] at h
 clear c1 c2 c3 e3 e4
 conv=>whnf
 rw [show (nT (nT (nT C))).tab .a6 = .list (t6L.map amV) by rw [show (nT (nT (nT C))).tab = tabV from hT]; rfl]
 refine amongB_W (C:=nT (nT C)) (a:=[]) (b:=head) (suf:=x) hC ok6 hw rfl rfl (fun h0=>?_) (fun q e hb=>?_)
 ·rw [end0_no al_keys h0,if_neg (by decide +kernel),if_neg (by decide +kernel)] at h
  refine Br.tr ?_
  refine delE (C:=C) hw e2 hl (by lia) rfl rfl rfl fun k=>?_
  exact hS h
 obtain ⟨e1,e3⟩:=al_kinds e hb.mem
 rw [end0_of al_keys hb e1] at h
 rcases e3 with ⟨z1,z2,z3⟩ | ⟨z2,z3⟩
 ·rw [z3,if_neg fT,z1,if_pos rfl] at h
  have hal:(cps "al").length = 2:=by decide +kernel
  have hq:head.length = q.length + 2:=by rw [hb.eq,List.length_append,z1,hal]
  have hql:(head.length:Int) - (e.1.length:Nat) = q.length:=by rw [z1,hal]; lia
  rw [z2,hql]
  refine Br.no (by decide) ?_
  refine Br.yes rfl ?_
  refine Br.dec (fun c1=>?_) (fun c1=>?_)
  ·rw [if_neg (by lia)] at h
   refine delE (C:=C) hw e2 hl (by lia) rfl rfl rfl fun k=>?_
   exact hS h
  ·conv=>whnf
   refine Br.dec (fun c2=>?_) (fun c2=>?_)
   ·rw [if_neg (by lia)] at h
    refine delE (C:=C) hw e2 hl (by lia) rfl rfl rfl fun k=>?_
    exact hS h
   ·rw [if_pos (by lia)] at h
    exact hN h
 ·rw [z3,if_pos rfl] at h
  rw [z2]
  refine Br.no (by decide) ?_
  refine Br.no (by decide) ?_
  exact hN h
end
theorem ifT {c:Prop} [Decidable c] {x y z:T} (h:c->x = z) (h2:¬ c->y = z):(if c then x else y) = z:=by
 split
 ·exact h ‹_›
 ·exact h2 ‹_›
section
variable {C:Tbl} {one two bra ket csr:Int} {w:T} {f:Nat} {Q:QE} {H:T->Prop} {v1 v2:Option V}
theorem rest_tail (hT:C.tab = tabV) (hC:C.loose = true) (hl:w.length <= 900) (h:H (restF w f two))
 (hS:∀ {x:T} {v:Bool} {c b k:Int},H x->Q (.bool v) ⟨x,c,x.length,0,b,k,some two,some one,some (f:Int)⟩) (hc:csr = w.length) :
 seqK (wpSs (nT (nT (nT C))) (n0 + 1) (ss [.ite (.cmp .Lt (f0 .csr) (f0 .pV)) (ss [.ret (.con (.bool false))]) (ss []),.asgn 3 (f0 .lb),.asgnF 0 .lb (f0 .pV),.asgnF 0 .ket (f0 .csr),.asgn 4 (.callM .find_among_b 0 (es [(.tab .a8)])),.ite (.cmp .Eq (.loc 4) (cI 0)) (ss [.asgnF 0 .lb (.loc 3),.ret (.con (.bool false))]) (ss []),.asgnF 0 .bra (f0 .csr),.ite (.cmp .Eq (.loc 4) (cI 1)) (ss [.ite (.not_ (.callM .r2 0 (es []))) (ss [.asgnF 0 .lb (.loc 3),.ret (.con (.bool false))]) (ss []),.whl (.con (.bool true)) (ss [.try_ (ss [.ite (.bop .Or (es [(.cmp .LtE (f0 .csr) (f0 .lb)),(.cmp .NotEq (.idx (f0 .cur) (.bin .Sub (f0 .csr) (cI 1))) (cs "s"))])) (ss [.raise .l0]) (ss []),.augF 0 .csr .Sub (cI 1),.brk]) .l0,.ite (.bop .Or (es [(.cmp .LtE (f0 .csr) (f0 .lb)),(.cmp .NotEq (.idx (f0 .cur) (.bin .Sub (f0 .csr) (cI 1))) (cs "t"))])) (ss [.asgnF 0 .lb (.loc 3),.ret (.con (.bool false))]) (ss []),.augF 0 .csr .Sub (cI 1),.brk]),sd]) (ss [.ite (.cmp .Eq (.loc 4) (cI 2)) (ss [sl "i"]) (ss [sd])]),.asgnF 0 .lb (.loc 3),.ret (.con (.bool true))])) (runK Q) .next [some .self,v1,v2,none,none] ⟨w,csr,w.length,0,bra,ket,some two,some one,some (f:Int)⟩:=by
 subst hc
 unfold restF at h
 refine Br.dec (fun hf=>?_) (fun hf=>?_)
 ·rw [end_far rest_keys (fun e he=>(rest_kinds he).2.1) (by lia),if_pos rfl] at h
  exact hS h
 obtain ⟨a,b,rfl,ha⟩:=region (show f <= w.length by lia)
 rw [<- ha] at h hS ⊢
 clear hf
 conv=>whnf
 rw [show (nT (nT (nT C))).tab .a8 = .list (t8L.map amV) by rw [show (nT (nT (nT C))).tab = tabV from hT]; rfl]
 refine amongB_W (C:=nT (nT C)) (a:=a) (b:=b) (suf:=[]) hC ok8 (List.append_nil _).symm rfl rfl (fun h0=>?_) (fun p e hb=>?_)
 ·rw [end_no rest_keys h0,if_pos (show ([]:T) = cps "" from rfl)] at h
  refine Br.tr ?_
  exact hS h
 obtain ⟨e1,e2,e3,e4⟩:=rest_kinds hb.mem
 rw [end_of rest_keys hb e2,e1,if_neg (fun z=>by rw [z] at e2; exact absurd e2 (by decide +kernel))] at h
 have hw:a ++ b = a ++ p ++ e.1:=by rw [hb.eq,List.append_assoc]
 have hpl:((a ++ b).length:Int) - (e.1.length:Nat) = (a ++ p).length:=by rw [hw,List.length_append (as:=a ++ p)]; lia
 rw [hpl]
 rw [show cutS (a ++ b) e.1 = a ++ p by rw [hw]; exact cut_app _ _] at h
 obtain ⟨x,i,k⟩:=e
 simp only at hw e2 e3 e4 h ⊢
 clear hb e1 hpl ha
 generalize a ++ b = w at *
 generalize a ++ p = head at *
 unfold restG at h
 refine Br.no (by lia) ?_
 refine Br.by h (fun c1 h=>?_) (fun c1 h=>?_)
 ·rw [flip_ge] at h
  refine r2_W ?_
  refine Br.not (Br.le h (fun hc h=>?_) (fun h=>hS h))
  refine WW.step ?_
  refine Br.tr ?_
  have go:∀ {q:T} {c:Nat},head = q ++ [c]->(a.length:Int) < head.length->[cps "s",cps "t"].contains [c] = true->∀ {X:QE},(∀ k,X .none ⟨head,(head.length:Int) - 1,head.length,a.length,head.length,k,some two,some one,some (a.length:Int)⟩) ->
   WM (nT (nT (nT C))) .slice_del [] ⟨w,(head.length:Int) - 1,w.length,a.length,head.length,w.length,some two,some one,some (a.length:Int)⟩ X:=fun z hlt hcc X q=>delE (C:=C) hw e2 hl (by lia) rfl rfl rfl q
  refine chkb_W head x hw rfl (Int.natCast_nonneg _) (fun q c z1 z2 hlt=>?_) (fun hno=>?_)
  ·rw [if_pos (show (head.length:Int) > (a.length:Nat) from hlt),show lastS head = [c] by rw [z1]; exact lastS_cons q c,z2,if_pos (by decide +kernel)] at h
   refine Br.fa ?_
   refine go z1 hlt (by rw [z2]; decide +kernel) fun k=>?_
   exact hS h
  ·conv=>whnf
   refine Br.tr ?_
   refine chkb_W head x hw rfl (Int.natCast_nonneg _) (fun q c z1 z2 hlt=>?_) (fun hno2=>?_)
   ·rw [if_pos (show (head.length:Int) > (a.length:Nat) from hlt),show lastS head = [c] by rw [z1]; exact lastS_cons q c,z2,if_pos (by decide +kernel)] at h
    refine Br.fa ?_
    refine go z1 hlt (by rw [z2]; decide +kernel) fun k=>?_
    exact hS h
   ·have e:(if (head.length:Int) > (a.length:Nat) then (if [cps "s",cps "t"].contains (lastS head) = true then head else w) else w) = w:=ifT (fun hlt=>ifT (fun z=>by
     rcases last_cases head with y | ⟨q,c,y⟩
     ·rw [y] at hlt; exact absurd hlt (by simp)
     ·rw [y,lastS_cons,List.contains_iff_mem] at z
      simp only [List.mem_cons,List.not_mem_nil,or_false] at z
      exact z.elim (fun z=>absurd z (hno q c y hlt)) (fun z=>absurd z (hno2 q c y hlt))) fun _=>rfl) fun _=>rfl
    rw [e] at h
    refine Br.tr ?_
    exact hS h
 refine Br.by h (fun c2 h=>?_) (fun c2 h=>?_)
 ·conv=>whnf
  refine fromE (C:=nT C) hw e2 hl (by decide +kernel) (Int.le_refl _) rfl rfl rfl fun k=>?_
  exact hS h
 ·conv=>whnf
  refine delE (C:=C) hw e2 hl (Int.le_refl _) rfl rfl rfl fun k=>?_
  exact hS h
theorem residual_W (hT:C.tab = tabV) (hC:C.loose = true) (hl:w.length <= 900) (h:H (restS w f two))
 (hS:∀ {x:T} {v:Bool} {c b k:Int},H x->Q (.bool v) ⟨x,c,x.length,0,b,k,some two,some one,some (f:Int)⟩) :
 WM (nT (nT (nT (nT C)))) .residual [] ⟨w,w.length,w.length,0,bra,ket,some two,some one,some (f:Int)⟩ Q:=by
 have fin:∀ {x:T} {c b k:Int} {v1 v2:Option V},x.length <= 900->H (restF x f two)->c = x.length->seqK (wpSs (nT (nT (nT C))) (n0 + 1) (ss [.ite (.cmp .Lt (f0 .csr) (f0 .pV)) (ss [.ret (.con (.bool false))]) (ss []),.asgn 3 (f0 .lb),.asgnF 0 .lb (f0 .pV),.asgnF 0 .ket (f0 .csr),.asgn 4 (.callM .find_among_b 0 (es [(.tab .a8)])),.ite (.cmp .Eq (.loc 4) (cI 0)) (ss [.asgnF 0 .lb (.loc 3),.ret (.con (.bool false))]) (ss []),.asgnF 0 .bra (f0 .csr),.ite (.cmp .Eq (.loc 4) (cI 1)) (ss [.ite (.not_ (.callM .r2 0 (es []))) (ss [.asgnF 0 .lb (.loc 3),.ret (.con (.bool false))]) (ss []),.whl (.con (.bool true)) (ss [.try_ (ss [.ite (.bop .Or (es [(.cmp .LtE (f0 .csr) (f0 .lb)),(.cmp .NotEq (.idx (f0 .cur) (.bin .Sub (f0 .csr) (cI 1))) (cs "s"))])) (ss [.raise .l0]) (ss []),.augF 0 .csr .Sub (cI 1),.brk]) .l0,.ite (.bop .Or (es [(.cmp .LtE (f0 .csr) (f0 .lb)),(.cmp .NotEq (.idx (f0 .cur) (.bin .Sub (f0 .csr) (cI 1))) (cs "t"))])) (ss [.asgnF 0 .lb (.loc 3),.ret (.con (.bool false))]) (ss []),.augF 0 .csr .Sub (cI 1),.brk]),sd]) (ss [.ite (.cmp .Eq (.loc 4) (cI 2)) (ss [sl "i"]) (ss [sd])]),.asgnF 0 .lb (.loc 3),.ret (.con (.bool true))])) (runK Q) .next [some .self,v1,v2,none,none] ⟨x,c,x.length,0,b,k,some two,some one,some (f:Int)⟩:=fun z1 z2 z3=>rest_tail hT hC z1 z2 hS z3
 unfold restS unS at h
 generalize hG:(fun z=>H (restF z f two)) = G at *
 have h:G (unG (chop w) w):=by rw [<- hG]; exact h
 have fin:∀ {x:T} {c b k:Int} {v1 v2:Option V},x.length <= 900->G x->c = x.length->seqK (wpSs (nT (nT (nT C))) (n0 + 1) (ss [.ite (.cmp .Lt (f0 .csr) (f0 .pV)) (ss [.ret (.con (.bool false))]) (ss []),.asgn 3 (f0 .lb),.asgnF 0 .lb (f0 .pV),.asgnF 0 .ket (f0 .csr),.asgn 4 (.callM .find_among_b 0 (es [(.tab .a8)])),.ite (.cmp .Eq (.loc 4) (cI 0)) (ss [.asgnF 0 .lb (.loc 3),.ret (.con (.bool false))]) (ss []),.asgnF 0 .bra (f0 .csr),.ite (.cmp .Eq (.loc 4) (cI 1)) (ss [.ite (.not_ (.callM .r2 0 (es []))) (ss [.asgnF 0 .lb (.loc 3),.ret (.con (.bool false))]) (ss []),.whl (.con (.bool true)) (ss [.try_ (ss [.ite (.bop .Or (es [(.cmp .LtE (f0 .csr) (f0 .lb)),(.cmp .NotEq (.idx (f0 .cur) (.bin .Sub (f0 .csr) (cI 1))) (cs "s"))])) (ss [.raise .l0]) (ss []),.augF 0 .csr .Sub (cI 1),.brk]) .l0,.ite (.bop .Or (es [(.cmp .LtE (f0 .csr) (f0 .lb)),(.cmp .NotEq (.idx (f0 .cur) (.bin .Sub (f0 .csr) (cI 1))) (cs "t"))])) (ss [.asgnF 0 .lb (.loc 3),.ret (.con (.bool false))]) (ss []),.augF 0 .csr .Sub (cI 1),.brk]),sd]) (ss [.ite (.cmp .Eq (.loc 4) (cI 2)) (ss [sl "i"]) (ss [sd])]),.asgnF 0 .lb (.loc 3),.ret (.con (.bool true))])) (runK Q) .next [some .self,v1,v2,none,none] ⟨x,c,x.length,0,b,k,some two,some one,some (f:Int)⟩:=fun z1 z2 z3=>fin z1 (by rw [<- hG] at z2; exact z2) z3
 clear hG
 unfold unG at h
 refine WM.run rfl ?_
 refine chkb_W w [] (List.append_nil w).symm rfl (Int.le_refl _) (fun q c z1 z2 hlt=>?_) (fun hno=>?_)
 ·have hq:(w.length:Int) = q.length + 1:=by rw [z1,List.length_append]; rfl
  have hch:chop w = q:=by rw [z1]; exact chop_snoc q c
  rw [show slice w (some (-1)) none = cps "s" by rw [z1]; exact (lastS_cons q c).trans z2,if_pos rfl,hch] at h
  have hwq:w = q ++ ([c] ++ []):=by rw [z1,List.append_nil]
  have hql:q.length <= 900:=by lia
  refine Br.fa ?_
  refine WW.step ?_
  refine Br.tr ?_
  have hi:slice q (some (-2)) none = cps "Hi" ↔ (cps "Hi").isSuffixOf q = true:=slice_back (k:=2) (by decide +kernel) (by decide)
  refine eqB_W (C:=nT (nT C)) (pre:=q) (suf:=[c] ++ []) hwq (by lia) (fun hh=>?_) (fun hh=>?_)
  ·rw [if_pos (hi.mpr hh)] at h
   refine Br.fa ?_
   refine delE (C:=C) hwq (by simp) hl (by lia) rfl rfl (by lia) fun k=>?_
   exact fin hql h (by lia)
  ·rw [if_neg (fun z=>by rw [hi.mp z] at hh; cases hh)] at h
   refine Br.tr ?_
   conv=>whnf
   rw [show (nT (nT (nT C))).tab .kws = .set kwsL by rw [show (nT (nT (nT C))).tab = tabV from hT]; rfl]
   rcases last_cases q with z | ⟨p,d,z⟩
   ·rw [if_pos (show q = cps "" from z)] at h
    have:q.length = 0:=by rw [z]; rfl
    refine outB_nil (C:=nT (nT C)) (by lia) ?_
    refine Br.tr ?_
    exact fin hl h (by lia)
   ·have hp:(q.length:Int) = p.length + 1:=by rw [z,List.length_append]; rfl
    rw [if_neg (fun y=>by have:q.length = 0:=(by rw [y]; rfl); lia)] at h
    have e:=at_back (cur:=w) (p:=p) (r:=[c]) (c:=d) (csr:=(w.length:Int) - 1) (by rw [z1,z]) (by lia)
    rw [show lastS q = [d] by rw [z]; exact lastS_cons p d] at h
    cases hc:kwsL.contains [d] with
    | true =>
     rw [if_pos hc] at h
     refine outB_n (C:=nT (nT C)) (by lia) e hc ?_
     refine Br.tr ?_
     exact fin hl h (by lia)
    | false =>
     rw [if_neg (by rw [hc]; exact fT)] at h
     refine outB_y (C:=nT (nT C)) (by lia) e hc ?_
     refine Br.fa ?_
     refine delE (C:=C) hwq (by simp) hl (by lia) rfl rfl (by lia) fun k=>?_
     exact fin hql h (by lia)
 ·rw [if_neg (fun z=>by
   rcases last_cases w with y | ⟨q,c,y⟩
   ·rw [y] at z; exact absurd z (by decide +kernel)
   ·refine hno q c y (by rw [y,List.length_append,List.length_singleton]; lia) ?_
    rw [<- z,y]; exact (lastS_cons q c).symm)] at h
  refine Br.tr ?_
  exact fin hl h (by lia)
end
theorem orO_none (o:Option T):orO none o = o:=rfl
section
variable {C:Tbl} {n:Nat} {l:Lc} {s:Stem} {K:QS} {w:WSt} {k:Lab}
theorem nil_W (h:K .next l s):wpSs C n (ss []) l s K:=h
theorem brk_W (h:K .brk l s):seqK (wpSs C n (ss [.brk])) K .next l s:=h
theorem loop_brk (h:K .next l s):loopK w K .brk l s:=h
theorem seqnil_W (h:K .next l s):seqK (wpSs C n (ss [])) K .next l s:=h
theorem raise_W (h:K (.exc k) l s):wpSs C n (ss [.raise k]) l s K:=h
theorem seq_exc (h:K (.exc k) l s):seqK w K (.exc k) l s:=h
theorem loop_exc (h:K (.exc k) l s):loopK w K (.exc k) l s:=h
end
theorem dbl_len (w:T):(dblS w).length <= w.length:=ite0 (chop_len w) (ite0 (chop_len w) (Nat.le_refl _))
theorem acc_len (w:T):(accS w).length <= w.length + 1:=by
 have up:w.length <= w.length + 1:=Nat.le_add_right _ _
 unfold accS accG
 generalize runB w = k
 refine ite0 (dite (w.length - k <= w.length) (fun z=>ite0 (ite0 ?_ up) up) (fun z=>absurd (Nat.sub_le _ _) z)) up
 rw [List.length_append,List.length_append,List.length_take,List.length_drop,show (cps "e").length = 1 by decide +kernel]
 omega
theorem behind_up (m:T):behindS m 0 <= behindS m (behindS m 0):=by
 have h:behindS m 0 <= m.length:=Nat.min_le_right _ _
 generalize behindS m 0 = k at *
 show k <= min _ _
 exact Nat.le_min.mpr ⟨by lia,h⟩
section
variable {C:Tbl} {p2 p1 pV:Option Int} {bra ket csr:Int} {w:T} {Q:QE} {H:T->Prop}
theorem stem_end {v1 v2 v4 v5 v6 v7 v8:Option V} (hT:C.tab = tabV) (hC:C.loose = true) (hl:w.length <= 800) (h:H (plainS w))
 (hS:∀ {x:T} {v:Bool} {c b k:Int},H x->Q (.bool v) ⟨x,c,x.length,0,b,k,p2,p1,pV⟩) {d:Int} (hd:d = 0) :
 seqK (wpSs (nT (nT (nT (nT C)))) (n0 + 1) (ss [.asgnF 0 .csr (.bin .Sub (f0 .lim) (.loc 3)),.asgn 9 (.bin .Sub (f0 .lim) (f0 .csr)),.expr (.callM .un_double 0 (es [])),.asgnF 0 .csr (.bin .Sub (f0 .lim) (.loc 9)),.asgn 10 (.bin .Sub (f0 .lim) (f0 .csr)),.expr (.callM .un_accent 0 (es [])),.asgnF 0 .csr (.bin .Sub (f0 .lim) (.loc 10)),.asgnF 0 .csr (f0 .lb),.asgn 11 (f0 .csr),.expr (.callM .postlude 0 (es [])),.asgnF 0 .csr (.loc 11),.ret (.con (.bool true))])) (runK Q) .next [some .self,v1,v2,some (.int d),v4,v5,v6,v7,v8,none,none,none] ⟨w,csr,w.length,0,bra,ket,p2,p1,pV⟩:=by
 subst hd
 have h1:=dbl_len w
 have h2:=acc_len (dblS w)
 unfold plainS at h
 conv=>whnf
 rw [Int.sub_zero]
 refine un_double_W hC hT (by lia) fun v c b k=>?_
 conv=>whnf
 rw [Int.sub_self,Int.sub_zero]
 refine un_accent_W (C:=nT C) hT (by lia) fun v c b k=>?_
 refine postlude_W hC hT (by lia) fun v c b k=>?_
 exact hS h
theorem stem_yc {l1 l2 l3 l4 l5 l6:Option V} {K:QS} (hl:w.length <= 900) (h:H (ycS w))
 (hS:∀ {x:T} {c b k:Int} {l7 l8:Option V},H x->K .brk [some .self,l1,l2,l3,l4,l5,l6,l7,l8,none,none,none] ⟨x,c,x.length,0,b,k,p2,p1,pV⟩) {d:Int} (hd:d = 0) (hc:csr = w.length) (hk:ket = w.length) :
 WW (wpE (nT (nT (nT (nT C)))) (.con (.bool true))) (wpSs (nT (nT (nT (nT C)))) (n0 + 1) (ss [.asgn 8 (.bin .Sub (f0 .lim) (f0 .csr)),.try_ (ss [.ite (.bop .Or (es [(.cmp .LtE (f0 .csr) (f0 .lb)),(.cmp .NotEq (.idx (f0 .cur) (.bin .Sub (f0 .csr) (cI 1))) (cs "Y"))])) (ss [.raise .l3]) (ss []),.augF 0 .csr .Sub (cI 1),.asgnF 0 .bra (f0 .csr),sl "i",.brk]) .l3,.asgnF 0 .csr (.bin .Sub (f0 .lim) (.loc 8)),.ite (.bop .Or (es [(.cmp .LtE (f0 .csr) (f0 .lb)),(.cmp .NotEq (.idx (f0 .cur) (.bin .Sub (f0 .csr) (cI 1))) (cs "ç"))])) (ss [.asgnF 0 .csr (.bin .Sub (f0 .lim) (.loc 7)),.raise .l2]) (ss []),.augF 0 .csr .Sub (cI 1),.asgnF 0 .bra (f0 .csr),sl "c",.brk])) (n0 + 1) [some .self,l1,l2,l3,l4,l5,l6,some (.int d),none,none,none,none] ⟨w,csr,w.length,0,bra,ket,p2,p1,pV⟩
  (seqK (wpSs (nT (nT (nT (nT C)))) (n0 + 1) (ss [])) (tryK .l2 (seqK (wpSs (nT (nT (nT (nT C)))) (n0 + 1) (ss [.brk])) K))):=by
 subst hd
 unfold ycS at h
 have no:∀ {x:T},x.length = 1->(∀ q c,w = q ++ [c]->(0:Int) < w.length->[c] ≠ x)->¬ slice w (some (-1)) none = x:=fun h1 hno z=>by
  rcases last_cases w with y | ⟨q,c,y⟩
  ·rw [y] at z; rw [<- z] at h1; exact absurd h1 (by decide +kernel)
  ·exact hno q c y (by rw [y,List.length_append,List.length_singleton]; lia) (by rw [<- z,y]; exact (lastS_cons q c).symm)
 refine WW.step ?_
 refine Br.tr ?_
 refine chkb_W w [] (List.append_nil w).symm hc (Int.le_refl _) (fun q c z1 z2 hlt=>?_) (fun hno=>?_)
 ·have hq:(w.length:Int) = q.length + 1:=by rw [z1,List.length_append]; rfl
  rw [show slice w (some (-1)) none = cps "Y" by rw [z1]; exact (lastS_cons q c).trans z2,if_pos rfl,show chop w = q by rw [z1]; exact chop_snoc q c] at h
  have hwq:w = q ++ [c]:=z1
  refine Br.fa ?_
  refine fromE (C:=nT (nT C)) hwq (Nat.le_refl 1) hl (by decide +kernel) (by lia) rfl (by lia) (by lia) fun k=>?_
  exact hS h
 ·rw [if_neg (no (by decide +kernel) (fun q c z lt=>hno q c z (by lia)))] at h
  refine Br.tr ?_
  refine chkb_W w [] (List.append_nil w).symm (by lia) (Int.le_refl _) (fun q c z1 z2 hlt=>?_) (fun hno2=>?_)
  ·have hq:(w.length:Int) = q.length + 1:=by rw [z1,List.length_append]; rfl
   rw [show slice w (some (-1)) none = cps "ç" by rw [z1]; exact (lastS_cons q c).trans z2,if_pos rfl,show chop w = q by rw [z1]; exact chop_snoc q c] at h
   have hwq:w = q ++ [c]:=z1
   refine Br.fa ?_
   refine fromE (C:=nT (nT C)) hwq (Nat.le_refl 1) hl (by decide +kernel) (by lia) rfl (by lia) (by lia) fun k=>?_
   exact hS h
  ·rw [if_neg (no (by decide +kernel) (fun q c z lt=>hno2 q c z (by lia)))] at h
   refine Br.tr ?_
   exact hS h
theorem stem__W {w:T} (hT:C.tab = tabV) (hC:C.loose = true) (hl:w.length <= 100) (h:H (stemS w))
 (hS:∀ {x:T} {v:Bool} {c b k:Int} {p2 p1 pV:Option Int},H x->Q (.bool v) ⟨x,c,x.length,0,b,k,p2,p1,pV⟩) :
 WM (nT (nT (nT (nT (nT C))))) .stem_ [] ⟨w,0,w.length,0,bra,ket,p2,p1,pV⟩ Q:=by
 have he:=elide_len w
 have hm:=marked_len w
 unfold stemS at h
 rw [show markedS w = preS (elideS w) from rfl] at h hm
 refine WM.run rfl ?_
 refine elisions_W (C:=C) hC hT (by lia) fun v c b k=>?_
 generalize elideS w = e at *
 refine prelude_W (C:=C) hT (by lia) fun v c b k=>?_
 generalize preS e = m at *
 refine mark_W (C:=nT (nT C)) hT hC (by lia) fun v=>?_
 have h12:=behind_up m
 unfold stemF at h
 generalize behindS m (behindS m 0) = two at *
 generalize behindS m 0 = one at *
 generalize firstS m = f at *
 have hn:=noun_len (a:=f) (b:=one) (c:=two) (show m.length <= 504 by lia)
 refine WW.step ?_
 refine Br.tr ?_
 refine WW.step ?_
 refine Br.tr ?_
 refine standard_W (C:=C) (w:=m) hT hC (by lia) (Int.ofNat_le.mpr h12) fun c b k=>?_
 clear h12 hm he hl
 unfold stemG toldS at h
 generalize (nounS m f one two).2 = d at *
 generalize (nounS m f one two).1 = x at *
 have hx:x.length <= 514:=hn
 have hv:=verb_len (a:=f) (b:=two) hx
 have fin:∀ {y:T} {c b k d:Int} {v1 v2 v4 v5 v6 v7 v8:Option V},y.length <= 800 /\ H (plainS y)->d = 0->tryK .l0 (seqK (wpSs (nT (nT (nT (nT C)))) (n0 + 1) (ss [.asgnF 0 .csr (.bin .Sub (f0 .lim) (.loc 3)),.asgn 9 (.bin .Sub (f0 .lim) (f0 .csr)),.expr (.callM .un_double 0 (es [])),.asgnF 0 .csr (.bin .Sub (f0 .lim) (.loc 9)),.asgn 10 (.bin .Sub (f0 .lim) (f0 .csr)),.expr (.callM .un_accent 0 (es [])),.asgnF 0 .csr (.bin .Sub (f0 .lim) (.loc 10)),.asgnF 0 .csr (f0 .lb),.asgn 11 (f0 .csr),.expr (.callM .postlude 0 (es [])),.asgnF 0 .csr (.loc 11),.ret (.con (.bool true))])) (runK Q)) .next [some .self,v1,v2,some (.int d),v4,v5,v6,v7,v8,none,none,none] ⟨y,c,y.length,0,b,k,some two,some one,some f⟩:=fun z1 z2=>stem_end (C:=C) (H:=H) hT hC z1.1 z1.2 (fun z=>hS z) z2
 have h:LeO (if d = true then some x else verbS x f two) 600 /\ H (plainS (endG x f two (if d = true then some x else verbS x f two))):=⟨iteO (LeO.s (by lia)) (fun r e=>Nat.le_trans (hv r e) (by lia)),h⟩
 generalize hG:(fun o=>LeO o 600 /\ H (plainS (endG x f two o))) = G
 have h:G (if d = true then some x else verbS x f two):=by rw [<- hG]; exact h
 have yes:∀ {t:T},G (some t)->t.length <= 600 /\ ((ycS t).length <= 800 /\ H (plainS (ycS t))):=fun z=>by
  rw [<- hG] at z
  have z1:=z.1 _ rfl
  have z2:=yc_len z1
  exact ⟨z1,by lia,z.2⟩
 have none':G none->(restS x f two).length <= 800 /\ H (plainS (restS x f two)):=fun z=>by
  rw [<- hG] at z
  have z2:=rest_len (a:=f) (b:=two) hx
  exact ⟨by lia,z.2⟩
 clear hG hn hv
 refine Br.not (Br.byB h (fun c h=>?_) (fun c h=>?_))
 ·obtain ⟨z1,z2⟩:=yes h
  refine stem_yc (C:=C) (H:=fun y=>y.length <= 800 /\ H (plainS y)) (by lia) z2 (fun {y c b k l7 l8} h=>?_) (by lia) (by lia) (by lia)
  exact fin (c:=c) h (by lia)
 ·rw [verbS_iv] at h
  conv=>whnf
  rw [Int.sub_self,Int.sub_zero]
  refine i_verb_W (C:=C) (H:=fun o=>G (orO o (verb2 x f two))) hT hC (by lia) h (fun {t c b k} h=>?_) (fun {c b k} h=>?_)
  ·obtain ⟨z1,z2⟩:=yes h
   refine Br.fa ?_
   refine stem_yc (C:=C) (H:=fun y=>y.length <= 800 /\ H (plainS y)) (by lia) z2 (fun {y c b k l7 l8} h=>?_) (by lia) (by lia) (by lia)
   exact fin (c:=c) h (by lia)
  ·have h:G (orO none (verb2 x f two)):=h
   rw [orO_none] at h
   refine Br.tr ?_
   conv=>whnf
   rw [Int.sub_zero]
   refine verbM_W (C:=C) hT hC (by lia) h (fun {t c b k} h=>?_) (fun {c b k} h=>?_)
   ·obtain ⟨z1,z2⟩:=yes h
    refine Br.fa ?_
    refine stem_yc (C:=C) (H:=fun y=>y.length <= 800 /\ H (plainS y)) (by lia) z2 (fun {y c b k l7 l8} h=>?_) (by lia) (by lia) (by lia)
    exact fin (c:=c) h (by lia)
   ·conv=>whnf
    refine Br.tr ?_
    conv=>whnf
    rw [Int.sub_zero]
    refine residual_W (C:=C) (H:=fun y=>y.length <= 800 /\ H (plainS y)) hT hC (by lia) (none' h) (fun {y v c b k} h=>?_)
    cases v with
    | true =>
     refine Br.fa ?_
     refine nil_W (brk_W (loop_brk (seqnil_W ?_)))
     exact fin (c:=c) h rfl
    | false =>
     refine Br.tr ?_
     refine raise_W (seq_exc (loop_exc (seq_exc ?_)))
     have:=fin (c:=c) (b:=b) (k:=k) (v1:=some (.int 0)) (v2:=some (.int 0)) (v4:=some (.int 0)) (v5:=some (.int 0)) (v6:=some (.int 0)) (v7:=none) (v8:=none) h rfl
     exact this
end
theorem stemWord_W {C:Tbl} {s:Stem} {w:T} {Q:QE} (hT:C.tab = tabV) (hC:C.loose = true) (hl:w.length <= 100) (h:∀ s':Stem,s'.cur = stemS w->Q (.str (stemS w)) s') :
 WM (nT (nT (nT (nT (nT (nT C)))))) .stemWord [.str w] s Q:=by
 refine WM.run rfl ?_
 refine set_current_W ?_
 refine stem__W (C:=C) (H:=fun x=>∀ s':Stem,s'.cur = x->Q (.str x) s') hT hC hl h fun {x v c b k p2 p1 pV} h=>?_
 refine get_current_W ?_
 exact h _ rfl
theorem current_W {C:Tbl} {s:Stem} {Q:QE} (h:Q (.str s.cur) s):WM (nT C) .get_current [] s Q:=WM.run rfl h
noncomputable def lettersL:List T:=[(cps "a"),(cps "b"),(cps "c"),(cps "d"),(cps "e"),(cps "f"),(cps "g"),(cps "h"),(cps "i"),(cps "j"),(cps "l"),(cps "m"),(cps "n"),(cps "o"),(cps "p"),(cps "q"),(cps "r"),(cps "s"),(cps "t"),(cps "u"),(cps "v"),(cps "x"),(cps "y"),(cps "z"),(cps "à"),(cps "â"),(cps "ç"),(cps "è"),(cps "é"),(cps "ê"),(cps "ë"),(cps "î"),(cps "ï"),(cps "ô"),(cps "ù"),(cps "û"),(cps "'"),(cps "k"),(cps "w"),(cps "œ"),(cps "æ"),(cps "ü"),(cps "ÿ")]
noncomputable def partsL:List T:=[(cps "l'"),(cps "d'"),(cps "qu'"),(cps "c'"),(cps "col"),(cps "ni"),(cps "par"),(cps "tap"),(cps "qu"),(cps "qua"),(cps "ay"),(cps "oy"),(cps "uai"),(cps "aï"),(cps "oë"),(cps "gu"),(cps "at"),(cps "ic"),(cps "iv"),(cps "abil"),(cps "abl"),(cps "ièr"),(cps "eus"),(cps "ill"),(cps "enn"),(cps "ett"),(cps "onn"),(cps "és"),(cps "al"),(cps "épl"),(cps "auv"),(cps "bij"),(cps "gen")]
section
variable {C:Tbl} {s:Stem}
theorem letters_W {Q:QE} (h:Q (.list (lettersL.map .str)) s):WF (nT C) .letters [] s Q:=WF.run rfl rfl h
theorem parts_W {Q:QE} (h:Q (.list (partsL.map .str)) s):WF (nT C) .parts [] s Q:=WF.run rfl rfl h
theorem pick {L:List T} {m:Nat} {x:Int} {P:V->Prop} (h0:0 < L.length) (hl:∀ y ∈ L,y.length <= m) (h:∀ y:T,y.length <= m->P (.str y)):Idx (pyAt (L.map V.str) (Int.fmod x ((L.map V.str).length:Nat))) P:=by
 have e:(L.map V.str).length = L.length:=List.length_map ..
 have h1:0 <= Int.fmod x (L.length:Nat):=Int.fmod_nonneg_of_pos _ (by lia)
 have h2:Int.fmod x (L.length:Nat) < (L.length:Nat):=Int.fmod_lt_of_pos _ (by lia)
 rw [e]
 generalize Int.fmod x (L.length:Nat) = i at *
 have hi:i.toNat < L.length:=by lia
 refine Idx.of (v:=.str L[i.toNat]) ?_ (h _ (hl _ (List.getElem_mem hi)))
 rw [pyAt_eq _ _ i.toNat (by lia),List.getElem?_map,List.getElem?_eq_getElem hi]; rfl
noncomputable def inB:ISs:=(ss [.asgn 2 (.bin .Add (.loc 2) (.idx (.callF .letters (es [])) (.bin .Mod (.bin .Mod (.bin .FloorDiv (.bin .FloorDiv (.loc 4) (cI 5)) (.bin .Pow (cI 64) (.loc 5))) (cI 64)) (.len (.callF .letters (es []))))))])
noncomputable def wordB:ISs:=(ss [.asgn 4 (.bin .FloorDiv (.loc 3) (cI 3)),.ite (.cmp .Eq (.bin .Mod (.loc 3) (cI 3)) (cI 0)) (ss [.forR 5 (cI 0) (.bin .Mod (.loc 4) (cI 5)) (cI 1) (ss [.asgn 2 (.bin .Add (.loc 2) (.idx (.callF .letters (es [])) (.bin .Mod (.bin .Mod (.bin .FloorDiv (.bin .FloorDiv (.loc 4) (cI 5)) (.bin .Pow (cI 64) (.loc 5))) (cI 64)) (.len (.callF .letters (es []))))))])]) (ss [.ite (.cmp .Eq (.bin .Mod (.loc 3) (cI 3)) (cI 1)) (ss [.asgn 2 (.bin .Add (.loc 2) (.idx (.loc 1) (.bin .Mod (.loc 4) (.len (.loc 1)))))]) (ss [.asgn 2 (.bin .Add (.loc 2) (.idx (.callF .parts (es [])) (.bin .Mod (.loc 4) (.len (.callF .parts (es []))))))])])])
theorem in_loop {n:Nat} {a b:V} {y m:Int} {B:Nat} {Q:QS} (hB:B <= 100):∀ (xs:List Int) (w:T) (l5:Option V),(∀ x ∈ xs,0 <= x /\ x < 5)->w.length + xs.length <= B ->
 (∀ (w:T) (l5:Option V),w.length <= B->Q .next [some a,some b,some (.str w),some (.int y),some (.int m),l5] s) ->
 WL 5 (wpSs (nT C) n inB) (xs.map .int) [some a,some b,some (.str w),some (.int y),some (.int m),l5] s Q
 | [],w,l5,_,hw,h=>WL.nil (h _ _ hw)
 | x :: xs,w,l5,hx,hw,h=>by
  obtain ⟨x0,x5⟩:=hx x (.head _)
  have hw:w.length + (xs.length + 1) <= B:=hw
  refine WL.cons ?_
  have hp:(0:Int) < 64 ^ x.toNat:=Int.pow_pos (by decide)
  have hp2:(64:Int) ^ x.toNat <= 64 ^ 4:=by
   have h1:=Int.ofNat_le.mpr (Nat.pow_le_pow_right (show 64 > 0 by decide) (show x.toNat <= 4 by lia))
   rw [Int.natCast_pow,Int.natCast_pow] at h1
   exact h1
  refine letters_W ?_
  refine (show Must _ _ from ⟨by decide +kernel,?_⟩)
  refine (show Must _ _ from ⟨by rw [decide_eq_true x0,decide_eq_true x5]; rfl,?_⟩)
  refine (show Must _ _ from ⟨?_,?_⟩)
  ·show ((decide (_ < _) && decide ((64:Int) ^ x.toNat < _)) && decide (0 < (64:Int) ^ x.toNat)) = true
   rw [decide_eq_true hp,decide_eq_true (show (-1000000000:Int) < 64 ^ x.toNat by lia),decide_eq_true (show (64:Int) ^ x.toNat < 1000000000 by lia)]; rfl
  refine (show Must _ _ from ⟨by decide +kernel,?_⟩)
  refine letters_W ?_
  refine (show Must _ _ from ⟨by decide +kernel,?_⟩)
  refine pick (L:=lettersL) (m:=1) (by decide +kernel) (by decide +kernel) fun c hc=>?_
  refine ⟨by rw [List.length_append]; have:lim = 100000:=rfl; lia,?_⟩
  exact (in_loop hB xs (w ++ c) (some (.int x)) (fun x hx'=>hx x (.tail _ hx')) (by rw [List.length_append]; lia) h).ex
theorem word_loop {n:Nat} {a:V} {ends:List T} {Q:QS} (hC:C.loose = true) (h0:0 < ends.length) (hE:∀ y ∈ ends,y.length <= 20):∀ (ns:List Int) (w:T) (l3 l4 l5:Option V),w.length + 20 * ns.length <= 100 ->
 (∀ (w:T) (l3 l4 l5:Option V),w.length <= 100->Q .next [some a,some (.list (ends.map .str)),some (.str w),l3,l4,l5] s) ->
 WL 3 (wpSs (nT C) n wordB) (ns.map .int) [some a,some (.list (ends.map .str)),some (.str w),l3,l4,l5] s Q
 | [],w,l3,l4,l5,hw,h=>WL.nil (h _ _ _ _ (by omega))
 | x :: xs,w,l3,l4,l5,hw,h=>by
  rw [List.length_cons] at hw
  have ih:∀ (w':T) (l4 l5:Option V),w'.length <= w.length + 20->WL 3 (wpSs (nT C) n wordB) (xs.map .int) [some a,some (.list (ends.map .str)),some (.str w'),some (.int x),l4,l5] s Q:=fun w' l4 l5 z=>word_loop hC h0 hE xs w' _ l4 l5 (by lia) h
  have app:∀ {c:T} {P:V->Prop},c.length <= 20->P (.str (w ++ c))->Cat w c P:=fun h1 h2=>⟨by rw [List.length_append]; have:lim = 100000:=rfl; lia,h2⟩
  refine WL.cons ?_
  refine (show Must _ _ from ⟨by decide +kernel,?_⟩)
  refine (show Must _ _ from ⟨by decide +kernel,?_⟩)
  refine Br.dec (fun c1=>?_) (fun c1=>?_)
  ·conv=>whnf
   refine (show Must _ _ from ⟨by decide +kernel,?_⟩)
   have h1:0 <= Int.fmod (Int.fdiv x 3) 5:=Int.fmod_nonneg_of_pos _ (by lia)
   have h2:Int.fmod (Int.fdiv x 3) 5 < 5:=Int.fmod_lt_of_pos _ (by lia)
   generalize Int.fmod (Int.fdiv x 3) 5 = b at *
   refine (show Must _ _ from ⟨?_,?_⟩)
   ·show (((C.loose && small 0) && small b) && (decide ((1:Int) = 1) || decide ((1:Int) = -1))) = true
    have hb:small b = true:=by unfold small; rw [decide_eq_true (show (-1000000000:Int) < b by lia),decide_eq_true (show b < 1000000000 by lia)]; rfl
    rw [hC,hb]; decide +kernel
   have e:rangeV 0 b 1 = ((List.range b.toNat).map fun (i:Nat)=>(i:Int)).map V.int:=by
    unfold rangeV
    rw [if_pos rfl,Int.sub_zero,List.map_map]
    refine List.map_congr_left fun i _=>?_
    show V.int _ = V.int _
    rw [Int.zero_add,Int.mul_one]
   rw [e]
   refine (in_loop (n:=n) (B:=w.length + 20) (by lia) _ w _ (fun z hz=>?_) ?_ fun w' l5 hw'=>?_)
   ·obtain ⟨i,hi,rfl⟩:=List.mem_map.mp hz
    have:=List.mem_range.mp hi
    exact ⟨by lia,by lia⟩
   ·rw [List.length_map,List.length_range]; lia
   ·exact (ih w' _ _ hw').ex
  ·conv=>whnf
   refine (show Must _ _ from ⟨by decide +kernel,?_⟩)
   refine Br.dec (fun c2=>?_) (fun c2=>?_)
   ·conv=>whnf
    refine (show Must _ _ from ⟨decide_eq_true (by rw [List.length_map]; lia),?_⟩)
    refine pick (L:=ends) (m:=20) h0 hE fun c hc=>?_
    refine app hc ?_
    exact (ih _ _ _ (by rw [List.length_append]; lia)).ex
   ·conv=>whnf
    refine parts_W ?_
    refine parts_W ?_
    refine (show Must _ _ from ⟨by decide +kernel,?_⟩)
    refine pick (L:=partsL) (m:=20) (by decide +kernel) (by decide +kernel) fun c hc=>?_
    refine app hc ?_
    exact (ih _ _ _ (by rw [List.length_append]; lia)).ex
theorem word_W {ends:List T} {ns:List Int} {Q:QE} (hC:C.loose = true) (h0:0 < ends.length) (hE:∀ y ∈ ends,y.length <= 20) (hn:ns.length <= 4) (h:∀ w:T,w.length <= 100->Q (.str w) s) :
 WF (nT (nT C)) .word [.list (ns.map .int),.list (ends.map .str)] s Q:=by
 refine WF.run rfl rfl ?_
 refine (show Must _ _ from ⟨hC,?_⟩)
 refine word_loop (n:=n0 + 1) hC h0 hE ns (cps "") _ _ _ (by have:(cps "").length = 0:=rfl; lia) fun w l3 l4 l5 hw=>?_
 exact h w hw
end
end Mine
end
noncomputable section
open PySem PySem.W PyProof.Rows PySem.Calls
set_option Elab.async false
set_option autoImplicit false
set_option maxRecDepth 100000
set_option linter.all false
set_option genInjectivity false
set_option genSizeOf false
set_option bootstrap.genMatcherCode false
namespace Mine
theorem ex1 {α:Type} {P:α->Prop} {G:Prop} (h:∃ a,P a) (k:∀ a,P a->G):G:=h.elim k
theorem ex2 {α β:Type} {P:α->β->Prop} {G:Prop} (h:∃ a b,P a b) (k:∀ a b,P a b->G):G:=h.elim fun a h=>h.elim (k a)
theorem ex3 {α β γ:Type} {P:α->β->γ->Prop} {G:Prop} (h:∃ a b c,P a b c) (k:∀ a b c,P a b c->G):G:=h.elim fun a h=>ex2 h (k a)
theorem ex4 {α β γ δ:Type} {P:α->β->γ->δ->Prop} {G:Prop} (h:∃ a b c d,P a b c d) (k:∀ a b c d,P a b c d->G):G:=h.elim fun a h=>ex3 h (k a)
theorem ex5 {α β γ δ ε:Type} {P:α->β->γ->δ->ε->Prop} {G:Prop} (h:∃ a b c d e,P a b c d e) (k:∀ a b c d e,P a b c d e->G):G:=h.elim fun a h=>ex4 h (k a)
theorem an2 {A B G:Prop} (h:A /\ B) (k:A->B->G):G:=k h.1 h.2
theorem an3 {A B C G:Prop} (h:A /\ B /\ C) (k:A->B->C->G):G:=k h.1 h.2.1 h.2.2
theorem an4 {A B C D G:Prop} (h:A /\ B /\ C /\ D) (k:A->B->C->D->G):G:=k h.1 h.2.1 h.2.2.1 h.2.2.2
theorem an5 {A B C D E G:Prop} (h:A /\ B /\ C /\ D /\ E) (k:A->B->C->D->E->G):G:=k h.1 h.2.1 h.2.2.1 h.2.2.2.1 h.2.2.2.2
theorem an6 {A B C D E F G:Prop} (h:A /\ B /\ C /\ D /\ E /\ F) (k:A->B->C->D->E->F->G):G:=k h.1 h.2.1 h.2.2.1 h.2.2.2.1 h.2.2.2.2.1 h.2.2.2.2.2
theorem an7 {A B C D E F H G:Prop} (h:A /\ B /\ C /\ D /\ E /\ F /\ H) (k:A->B->C->D->E->F->H->G):G:=k h.1 h.2.1 h.2.2.1 h.2.2.2.1 h.2.2.2.2.1 h.2.2.2.2.2.1 h.2.2.2.2.2.2
theorem an9 {A B C D E F H I J G:Prop} (h:A /\ B /\ C /\ D /\ E /\ F /\ H /\ I /\ J) (k:A->B->C->D->E->F->H->I->J->G):G:=k h.1 h.2.1 h.2.2.1 h.2.2.2.1 h.2.2.2.2.1 h.2.2.2.2.2.1 h.2.2.2.2.2.2.1 h.2.2.2.2.2.2.2.1 h.2.2.2.2.2.2.2.2
theorem turn_lt {n j:Nat} (h:j < n):n + 1 - (j + 1) < n + 1 - j:=by lia
noncomputable def locsOf (sc:Scope):List Str:=(sc.names.filter fun x=>x.2 == .local).map (·.1)
noncomputable def isLoc (sc:Scope) (i:Nat) (x:Str):Bool:=sc.names.lookup x == some .local && !(x == ("__debug__":Str)) && ((locsOf sc)[i]? == some x)
noncomputable def glob (sc:Scope) (x:Str):Bool:=sc.names.lookup x == some .globalImplicit && !(x == ("__debug__":Str))
noncomputable abbrev tx (t:T):Str:=⟨t.toArray⟩
noncomputable abbrev PG:Program:=PySem.Challenge.pw_ai0042_01
def SetAt (w:World) (h:Heap) (a:Addr) (ts:List T):Prop:=∃ n,h.SetOf (strKind PG w) a (fun y=>ts.contains y.cps.toList) n /\ n < 4096
structure AmgAt (AC:Addr) (h:Heap) (a:Addr) (x:T) (i r:Int):Prop where
 at_:∃ d od m t1 t2 t3,h.get? a = some (instObj AC d) /\ h.get? d = some od /\ h.Ns d m /\ m "s" = some (.str (tx x) t1) /\ m "substring_i" = some (.int i t2) /\ m "result" = some (.int r t3)
def DictAt (w:World) (h:Heap) (a:Addr) (ks:List T) (vals:List Value):Prop:=h.DictOf (strKind PG w) a ((ks.map tx).zip vals) /\ vals.length = ks.length
structure Cx where
 w:World
 H0:Heap
 AC:Addr
 FC:Addr
 slf:Option (Addr × Addr)
 envs:List Env
 os:OsState
 dr:Drawn
 pos:Bool
noncomputable def Cx.fs (c:Cx):List Addr:=c.envs.filterMap (·.frame)
noncomputable def Cx.ds (c:Cx):List Addr:=(c.slf.map (·.2)).toList
def Cx.mut (c:Cx) (a:Addr):Prop:=a ∈ c.fs \/ a ∈ c.ds
mutual
inductive VR (c:Cx) (h:Heap):V->Value->Prop
 | none:VR c h .none .none
 | bool (b:Bool):VR c h (.bool b) (.bool b)
 | int (n:Int) (t:Tok):VR c h (.int n) (.int n t)
 | str (s:T) (t:Tok) (hl:s.length <= lim):VR c h (.str s) (.str (tx s) t)
 | list {xs:List V} {a:Addr} {vals:List Value} (hm:¬ c.mut a) (ha:h.IsList a vals.toArray) (hl:xs.length <= lim) (hr:VRs c h xs vals):VR c h (.list xs) (.ref a)
 | tup {xs:List V} {a:Addr} {vals:List Value} (hm:¬ c.mut a) (ha:h.IsTuple a vals.toArray) (hl:xs.length <= lim) (hr:VRs c h xs vals):VR c h (.tup xs) (.ref a)
 | dict {ks:List T} {xs:List V} {a:Addr} {vals:List Value} (hm:¬ c.mut a) (ha:DictAt c.w h a ks vals) (hl:(ks.length <= lim /\ ∀ k ∈ ks,k.length <= lim) /\ a ≠ sysModules) (hr:VRs c h xs vals):VR c h (.dict ks xs) (.ref a)
 | set {ts:List T} {a:Addr} (hm:¬ c.mut a) (ha:SetAt c.w h a ts):VR c h (.set ts) (.ref a)
 | amg {x:T} {i r:Int} {a:Addr} (ha:AmgAt c.AC c.H0 a x i r) (hl:x.length <= lim):VR c h (.amg x i r) (.ref a)
 | self {x d:Addr} (hs:c.slf = some (x,d)):VR c h .self (.ref x)
inductive VRs (c:Cx) (h:Heap):List V->List Value->Prop
 | nil:VRs c h [] []
 | cons {x:V} {v:Value} {xs:List V} {vs:List Value} (a:VR c h x v) (b:VRs c h xs vs):VRs c h (x :: xs) (v :: vs)
end
theorem VRs.nil_inv {c:Cx} {h:Heap} {v:List Value} (r:VRs c h [] v):v = []:=by cases r; rfl
theorem VRs.cons_inv {c:Cx} {h:Heap} {x:V} {xs:List V} {v:List Value} (r:VRs c h (x :: xs) v):∃ y ys,v = y :: ys /\ VR c h x y /\ VRs c h xs ys:=by cases r; exact ⟨_,_,rfl,by assumption,by assumption⟩
theorem VRs.len {c:Cx} {h:Heap}:∀ {xs:List V} {vs:List Value},VRs c h xs vs->vs.length = xs.length
 | [],_,r=>by rw [r.nil_inv]; rfl
 | _ :: _,_,r=>by
  obtain ⟨y,ys,rfl,_,b⟩:=r.cons_inv
  exact congrArg (· + 1) (VRs.len b)
theorem VRs.get {c:Cx} {h:Heap}:∀ {xs:List V} {vs:List Value},VRs c h xs vs->∀ {i:Nat} {x:V},xs[i]? = some x->∃ v,vs[i]? = some v /\ VR c h x v
 | [],_,_,i,x,e=>nomatch e
 | _ :: _,_,r,i,x,e=>by
  obtain ⟨y,ys,rfl,a,b⟩:=r.cons_inv
  cases i with
  | zero=>cases e; exact ⟨_,rfl,a⟩
  | succ i=>exact VRs.get b (i:=i) e
theorem VRs.append {c:Cx} {h:Heap}:∀ {xs ys:List V} {v w:List Value},VRs c h xs v->VRs c h ys w->VRs c h (xs ++ ys) (v ++ w)
 | [],_,_,_,r,q=>by rw [r.nil_inv]; exact q
 | _ :: _,_,_,_,r,q=>by
  obtain ⟨y,ys,rfl,a,b⟩:=r.cons_inv
  exact .cons a (VRs.append b q)
structure Step (fs ds:List Addr) (h h':Heap):Prop where
 same:∀ b o,h.get? b = some o->b ∉ fs->b ∉ ds->h'.get? b = some o
 slot:∀ b o,h.get? b = some o->b ∈ fs->b ∉ ds->∃ sl,h'.get? b = some { o with slots:=sl }
theorem Step.refl (fs ds:List Addr) (h:Heap):Step fs ds h h:=⟨fun _ _ e _ _=>e,fun _ o e _ _=>⟨o.slots,e⟩⟩
theorem Step.trans {fs ds:List Addr} {h₁ h₂ h₃:Heap} (x:Step fs ds h₁ h₂) (y:Step fs ds h₂ h₃):Step fs ds h₁ h₃ :=
 ⟨fun b o e m n=>y.same b o (x.same b o e m n) m n,fun b o e m n=>by
  obtain ⟨sl,e'⟩:=x.slot b o e m n
  obtain ⟨sl',e''⟩:=y.slot b _ e' m n
  exact ⟨sl',e''⟩⟩
theorem Step.wide {fs ds ds':List Addr} {h h':Heap} (x:Step fs ds h h') (k:∀ a ∈ ds,a ∈ ds'):Step fs ds' h h' :=
 ⟨fun b o e m n=>x.same b o e m fun q=>n (k b q),fun b o e m n=>x.slot b o e m fun q=>n (k b q)⟩
theorem Step.push (fs ds:List Addr) (h:Heap) (o:Obj):Step fs ds h (h.push o) :=
 ⟨fun _ _ e _ _=>Heap.get?_push_of_some o e,fun _ o' e _ _=>⟨o'.slots,Heap.get?_push_of_some o e⟩⟩
theorem Step.ofKeeps {fs ds:List Addr} {h h':Heap} (k:∀ b o,h.get? b = some o->h'.get? b = some o):Step fs ds h h' :=
 ⟨fun b o e _ _=>k b o e,fun b o e _ _=>⟨o.slots,k b o e⟩⟩
theorem Step.sameBut {fs ds:List Addr} {a:Addr} {h h':Heap} (k:Heap.SameBut a h h') (m:a ∈ ds):Step fs ds h h' :=
 ⟨fun b o e _ n=>(k.2 b fun q=>n (q ▸ m)).trans e,fun b o e _ n=>⟨o.slots,(k.2 b fun q=>n (q ▸ m)).trans e⟩⟩
theorem Step.extBut {fs ds:List Addr} {h h':Heap} (k:Heap.ExtBut h.objs.size h h'):Step fs ds h h' :=
 Step.ofKeeps fun b o e=>k b o (Nat.ne_of_lt (Heap.lt_size e)) e
theorem Step.up {fs ds:List Addr} {h h':Heap} (x:Step fs ds h h') {b:Addr} {o:Obj} (e:h.get? b = some o) (n:b ∉ ds):∃ sl,h'.get? b = some { o with slots:=sl }:=by
 by_cases m:b ∈ fs
 ·exact x.slot b o e m n
 ·exact ⟨o.slots,x.same b o e m n⟩
theorem ns_up {h h':Heap} {a:Addr} {m:SV} (n:h.Ns a m) (k:∀ o,h.get? a = some o->∃ sl,h'.get? a = some { o with slots:=sl }):h'.Ns a m:=by
 obtain ⟨o,es,ep,ho,hd,r⟩:=n
 obtain ⟨sl,e⟩:=k o ho
 exact ⟨_,es,ep,e,hd,r⟩
theorem isList_keep {h h':Heap} {a:Addr} {vs:Array Value} (x:h.IsList a vs) (k:∀ o,h.get? a = some o->h'.get? a = some o):h'.IsList a vs:=by
 obtain ⟨o,e,r⟩:=x
 exact ⟨o,k o e,r⟩
theorem isTuple_keep {h h':Heap} {a:Addr} {vs:Array Value} (x:h.IsTuple a vs) (k:∀ o,h.get? a = some o->h'.get? a = some o):h'.IsTuple a vs:=by
 obtain ⟨o,e,r⟩:=x
 exact ⟨o,k o e,r⟩
theorem setAt_keep {w:World} {h h':Heap} {a:Addr} {ts:List T} (x:SetAt w h a ts) (k:∀ o,h.get? a = some o->h'.get? a = some o):SetAt w h' a ts:=by
 obtain ⟨n,⟨o,es,ep,t,e,r⟩,q⟩:=x
 exact ⟨n,⟨o,es,ep,t,k o e,r⟩,q⟩
theorem VR.mv {c c':Cx} {h h':Heap} (hw:c'.w = c.w) (h0:c'.H0 = c.H0) (hA:c'.AC = c.AC) (hs:c'.slf = c.slf) (k:∀ a o,¬ c.mut a->h.get? a = some o->(∀ vs,o.data ≠ .fields vs)->h'.get? a = some o /\ ¬ c'.mut a) {x:V} {v:Value} (r:VR c h x v):VR c' h' x v:=by
 have z:∀ {a:Addr} {o:Obj} {d:Data},¬ c.mut a->h.get? a = some o->o.data = d->(∀ vs,d ≠ .fields vs)->h'.get? a = some o /\ ¬ c'.mut a:=fun {a o d} hm ho hd n=>k a o hm ho (by rw [hd]; exact n)
 refine VR.rec (motive_1:=fun x v _=>VR c' h' x v) (motive_2:=fun xs vs _=>VRs c' h' xs vs) .none .bool .int .str ?_ ?_ ?_ ?_ (fun ha hl=>.amg (by rw [hA,h0]; exact ha) hl) (fun hx=>.self (by rw [hs]; exact hx)) .nil (fun _ _ a b=>.cons a b) r
 ·rintro xs a vals hm ⟨o,ho,hc,n,hd⟩ hl _ ih
  have q:=z hm ho hd nofun
  exact .list q.2 ⟨o,q.1,hc,n,hd⟩ hl ih
 ·rintro xs a vals hm ⟨o,ho,hc,n,hd⟩ hl _ ih
  have q:=z hm ho hd nofun
  exact .tup q.2 ⟨o,q.1,hc,n,hd⟩ hl ih
 ·rintro ks xs a vals hm ⟨⟨o,es,n,ho,hc,hd,r⟩,u⟩ hl _ ih
  have q:=z hm ho hd nofun
  exact .dict q.2 (by rw [hw]; exact ⟨⟨o,es,n,q.1,hc,hd,r⟩,u⟩) hl ih
 ·rintro ts a hm ⟨n,⟨o,es,ep,t,ho,hc,hd,r⟩,u⟩
  have q:=z hm ho hd nofun
  exact .set q.2 (by rw [hw]; exact ⟨n,⟨o,es,ep,t,q.1,hc,hd,r⟩,u⟩)
theorem VRs.mv {c c':Cx} {h h':Heap} (hw:c'.w = c.w) (h0:c'.H0 = c.H0) (hA:c'.AC = c.AC) (hs:c'.slf = c.slf) (k:∀ a o,¬ c.mut a->h.get? a = some o->(∀ vs,o.data ≠ .fields vs)->h'.get? a = some o /\ ¬ c'.mut a) {x:List V} {v:List Value} (r:VRs c h x v):VRs c' h' x v:=by
 induction x generalizing v with
 | nil=>rw [r.nil_inv]; exact .nil
 | cons x xs ih =>
  obtain ⟨y,ys,rfl,a,b⟩:=r.cons_inv
  exact .cons (a.mv hw h0 hA hs k) (ih b)
theorem Step.mv {c:Cx} {h h':Heap} {fs ds:List Addr} (st:Step fs ds h h') (k:∀ a,a ∈ fs \/ a ∈ ds->c.mut a):∀ a o,¬ c.mut a->h.get? a = some o->(∀ vs,o.data ≠ .fields vs)->h'.get? a = some o /\ ¬ c.mut a :=
 fun a o hm e _=>⟨st.same _ o e (fun q=>hm (k _ (.inl q))) fun q=>hm (k _ (.inr q)),hm⟩
theorem VR.step {c:Cx} {h h':Heap} {fs ds:List Addr} (st:Step fs ds h h') (k:∀ a,a ∈ fs \/ a ∈ ds->c.mut a) {x:V} {v:Value} (r:VR c h x v):VR c h' x v:=r.mv rfl rfl rfl rfl (st.mv k)
theorem VRs.step {c:Cx} {h h':Heap} {fs ds:List Addr} (st:Step fs ds h h') (k:∀ a,a ∈ fs \/ a ∈ ds->c.mut a) {x:List V} {v:List Value} (r:VRs c h x v):VRs c h' x v:=r.mv rfl rfl rfl rfl (st.mv k)
theorem nodup_at {α:Type} {l:List α} (hu:l.Nodup):∀ {i j:Nat} {a:α},l[i]? = some a->l[j]? = some a->i = j:=by
 induction l with
 | nil=>intro i j a h; cases h
 | cons x l ih =>
  obtain ⟨h1,h2⟩:=List.nodup_cons.mp hu
  intro i j a h k
  cases i with
  | zero =>
   cases j with
   | zero=>rfl
   | succ j=>cases h; exact absurd (List.mem_of_getElem? (l:=l) k) h1
  | succ i =>
   cases j with
   | zero=>cases k; exact absurd (List.mem_of_getElem? (l:=l) h) h1
   | succ j=>exact congrArg (· + 1) (ih h2 (i:=i) (j:=j) h k)
noncomputable def fname:Fld->Str
 | .cur=>"current" | .csr=>"cursor" | .lim=>"limit" | .lb=>"limit_backward" | .bra=>"bra" | .ket=>"ket" | .p2=>"I_p2" | .p1=>"I_p1" | .pV=>"I_pV"
theorem fname_back (f:Fld):[Fld.cur,.csr,.lim,.lb,.bra,.ket,.p2,.p1,.pV].find? (fun g=>fname g == fname f) = some f:=by cases f <;> kernel_rfl
theorem fname_inj {f g:Fld} (h:fname f = fname g):f = g:=Option.some.inj ((fname_back f).symm.trans (h ▸ fname_back g))
inductive FV:V->Value->Prop
 | int (n:Int) (t:Tok):FV (.int n) (.int n t)
 | str (s:T) (t:Tok) (hl:s.length <= lim):FV (.str s) (.str (tx s) t)
theorem FV.vr {c:Cx} {h:Heap} {v:V} {x:Value} (q:FV v x):VR c h v x:=by cases q <;> constructor <;> assumption
noncomputable def gt (s:Stem):Fld->Option V
 | .cur=>some (.str s.cur)
 | .csr=>some (.int s.csr)
 | .lim=>some (.int s.lim)
 | .lb=>some (.int s.lb)
 | .bra=>some (.int s.bra)
 | .ket=>some (.int s.ket)
 | .p2=>s.p2.map .int
 | .p1=>s.p1.map .int
 | .pV=>s.pV.map .int
theorem int1_inv {P:Int->Prop}:∀ {v:V},int1 v P->∃ n,v = .int n /\ P n
 | .int n,h=>⟨n,rfl,h⟩
theorem str1_inv {P:T->Prop}:∀ {v:V},str1 v P->∃ n,v = .str n /\ P n
 | .str n,h=>⟨n,rfl,h⟩
theorem list1_inv {P:List V->Prop}:∀ {v:V},list1 v P->∃ n,v = .list n /\ P n
 | .list n,h=>⟨n,rfl,h⟩
theorem asB_inv {P:Bool->Prop}:∀ {v:V},asB v P->∃ n,v = .bool n /\ P n
 | .bool n,h=>⟨n,rfl,h⟩
theorem slfK_inv {P:Prop}:∀ {v:V},slfK v P->v = .self /\ P
 | .self,h=>⟨rfl,h⟩
theorem wOpt_inv {P:V->Prop}:∀ {o:Option V},wOpt o P->∃ v,o = some v /\ P v
 | some v,h=>⟨v,rfl,h⟩
theorem getN_inv {s:Stem} {f:Fld} {P:V->Prop} (h:getN s f P):∃ v,gt s f = some v /\ P v:=by
 obtain ⟨a,b,c,d,e,g,p2,p1,pV⟩:=s
 have o:∀ {p:Option Int},(match p with | some x=>P (.int x) | none=>False)->∃ v,p.map V.int = some v /\ P v:=fun {p} h=>by
  cases p with
  | some x=>exact ⟨_,rfl,h⟩
  | none=>exact h.elim
 cases f with
 | p2=>exact o h
 | p1=>exact o h
 | pV=>exact o h
 | _=>exact ⟨_,rfl,h⟩
theorem iI {v:V} {P:Int->Prop} {G:Prop} (h:int1 v P) (k:∀ n,v = .int n->P n->G):G:=let ⟨n,e,h⟩:=int1_inv h; k n e h
theorem setN_inv {s:Stem} {f:Fld} {v:V} {P:Stem->Prop} (h:setN s f v P):∃ s',P s' /\ ((∃ n,v = .int n) \/ ∃ n,v = .str n) /\ gt s' f = some v /\ ∀ g,g ≠ f->gt s' g = gt s g:=by
 obtain ⟨a,b,c,d,e,g,p2,p1,pV⟩:=s
 cases f with
 | cur =>
  obtain ⟨n,e,h⟩:=str1_inv h
  exact ⟨_,h,.inr ⟨n,e⟩,congrArg some e.symm,fun g=>by clear h; cases g <;> first | exact fun _=>rfl | exact fun hg=>absurd rfl hg⟩
 | _=>exact iI h fun n e h=>⟨_,h,.inl ⟨n,e⟩,congrArg some e.symm,fun g=>by clear h; cases g <;> first | exact fun _=>rfl | exact fun hg=>absurd rfl hg⟩
structure FieldsAt (mA:SV) (sf:Stem):Prop where
 has:∀ f v,gt sf f = some v->∃ x,mA (fname f) = some x /\ FV v x
 only:∀ n,(∀ f,n ≠ fname f)->mA n = none
structure SelfAt (c:Cx) (h:Heap) (sf:Stem):Prop where
 at_:∀ x d,c.slf = some (x,d)->x ∉ c.fs /\ d ∉ c.fs /\ x ≠ d /\ c.H0.get? x = none /\ c.H0.get? d = none /\ h.get? x = some (instObj c.FC d) /\ ∃ mA,h.Ns1 d mA /\ FieldsAt mA sf
def LR (c:Cx) (h:Heap) (sc:Scope) (m:SV) (l:Lc):Prop :=
 l.length = (locsOf sc).length /\ ∀ (i:Nat) (n:Str),(locsOf sc)[i]? = some n->∀ v:V,l[i]?.join = some v->∃ x,m n = some x /\ VR c h v x
def FR (c:Cx) (h:Heap):Prop:=∀ env ∈ c.envs,env.scope.kind ≠ .module /\ ∃ L o es n,env.frame = some L /\ c.H0.get? L = none /\ h.get? L = some o /\ o.data = .dict es n
structure Sit (c:Cx) (A:Around) (s:Shared) (sf:Stem):Prop where
 base:c.H0.StaysIn s.heap
 frm:A.frames = some c.envs
 hd:A.handled = none
 fr:FR c s.heap
 gens:s.gens = #[]
 os:s.os = c.os
 dr:s.drawn = c.dr
 slf:SelfAt c s.heap sf
 tk:c.pos = true->0 < s.toks
structure St (c:Cx) (A:Around) (sc:Scope) (L:Addr) (s:Shared) (m:SV) (l:Lc) (sf:Stem):Prop extends Sit c A s sf where
 ns:s.heap.Ns L m
 inL:L ∈ c.fs
 loc:LR c s.heap sc m l
theorem ns1_up {h h':Heap} {a:Addr} {m:SV} (n:h.Ns1 a m) (k:∀ o,h.get? a = some o->∃ sl,h'.get? a = some { o with slots:=sl }):h'.Ns1 a m:=by
 obtain ⟨o,es,ep,ho,hd,r⟩:=n
 obtain ⟨sl,e⟩:=k o ho
 exact ⟨_,es,ep,e,hd,r⟩
theorem fr_mem {c:Cx} {h:Heap} (x:FR c h) {a:Addr} (m:a ∈ c.fs):c.H0.get? a = none /\ ∃ o es n,h.get? a = some o /\ o.data = .dict es n:=by
 obtain ⟨env,he,hf⟩:=List.mem_filterMap.mp m
 obtain ⟨_,L,o,es,n,h1,h2,h3,h4⟩:=x env he
 rw [hf] at h1; cases h1
 exact ⟨h2,o,es,n,h3,h4⟩
theorem mem_ds {c:Cx} {a:Addr} (m:a ∈ c.ds):∃ x,c.slf = some (x,a):=by
 unfold Cx.ds at m
 cases h:c.slf with
 | none=>rw [h] at m; cases m
 | some p =>
  rw [h] at m
  obtain ⟨x,d⟩:=p
  simp at m
  exact ⟨x,by rw [m]⟩
theorem Sit.mut_none {c:Cx} {A:Around} {s:Shared} {sf:Stem} (S:Sit c A s sf) {a:Addr} (m:c.mut a):c.H0.get? a = none /\ ∃ o es n,s.heap.get? a = some o /\ o.data = .dict es n:=by
 rcases m with m | m
 ·exact fr_mem S.fr m
 ·obtain ⟨x,hx⟩:=mem_ds m
  obtain ⟨_,_,_,_,h1,_,mA,⟨o,es,ep,ho,hd,_⟩,_⟩:=S.slf.at_ x a hx
  exact ⟨h1,o,es,ep,ho,hd⟩
theorem Sit.fresh {c:Cx} {A:Around} {s:Shared} {sf:Stem} (S:Sit c A s sf):¬ c.mut s.heap.objs.size:=fun m=>by
 obtain ⟨_,o,_,_,ho,_⟩:=S.mut_none m
 exact absurd (Heap.lt_size ho) (Nat.lt_irrefl _)
theorem Sit.base_mut {c:Cx} {A:Around} {s:Shared} {sf:Stem} (S:Sit c A s sf) {a:Addr} {o:Obj} (h:c.H0.get? a = some o):¬ c.mut a:=fun m=>by
 rw [(S.mut_none m).1] at h; cases h
theorem base_step {c:Cx} {A:Around} {s:Shared} {sf:Stem} (S:Sit c A s sf) {fs ds:List Addr} {h':Heap} (k:Step fs ds s.heap h') (hm:∀ a,a ∈ fs \/ a ∈ ds->c.mut a):c.H0.StaysIn h' :=
 fun b o e=>k.same b o (S.base b o e) (fun q=>S.base_mut e (hm _ (.inl q))) fun q=>S.base_mut e (hm _ (.inr q))
theorem fr_step {c:Cx} {h h':Heap} (x:FR c h) (k:∀ a ∈ c.fs,∀ o es n,h.get? a = some o->o.data = .dict es n->∃ o' es' n',h'.get? a = some o' /\ o'.data = .dict es' n'):FR c h':=by
 intro env he
 obtain ⟨h1,L,o,es,n,h2,h3,h4,h5⟩:=x env he
 obtain ⟨o',es',n',e1,e2⟩:=k L (List.mem_filterMap.mpr ⟨env,he,h2⟩) o es n h4 h5
 exact ⟨h1,L,o',es',n',h2,h3,e1,e2⟩
theorem fs_ds {c:Cx} {A:Around} {s:Shared} {sf:Stem} (S:Sit c A s sf) {a:Addr} (m:a ∈ c.fs):a ∉ c.ds:=fun q=>by
 obtain ⟨x,hx⟩:=mem_ds q
 exact (S.slf.at_ x a hx).2.1 m
theorem selfAt_step {c:Cx} {A:Around} {s:Shared} {sf:Stem} (S:Sit c A s sf) {h':Heap} {ds:List Addr} (k:Step c.fs ds s.heap h') (hd:∀ x d,c.slf = some (x,d)->d ∉ ds /\ x ∉ ds):SelfAt c h' sf:=by
 refine ⟨fun x d hx=>?_⟩
 obtain ⟨h1,h2,h3,h4,h5,h6,mA,h7,h8⟩:=S.slf.at_ x d hx
 obtain ⟨q1,q2⟩:=hd x d hx
 exact ⟨h1,h2,h3,h4,h5,k.same x _ h6 h1 q2,mA,ns1_up h7 fun o e=>k.up e q1,h8⟩
theorem Sit.step {c:Cx} {A:Around} {s:Shared} {sf sf':Stem} (S:Sit c A s sf) {h':Heap} {t:Nat} (k:Step c.fs c.ds s.heap h') (z:SelfAt c h' sf') (ht:c.pos = true->0 < t):Sit c A { s with heap:=h',toks:=t } sf' :=
 ⟨base_step S k (fun a q=>q),S.frm,S.hd,fr_step S.fr (fun a m o es n e1 e2=>by
  obtain ⟨sl,e⟩:=k.slot a o e1 m (fs_ds S m)
  exact ⟨_,es,n,e,e2⟩),S.gens,S.os,S.dr,z,ht⟩
theorem Sit.keep {c:Cx} {A:Around} {s:Shared} {sf:Stem} (S:Sit c A s sf) {h':Heap} {t:Nat} (k:Step c.fs [] s.heap h') (ht:c.pos = true->0 < t):Sit c A { s with heap:=h',toks:=t } sf :=
 S.step (k.wide (fun _ q=>nomatch q)) (selfAt_step S k fun _ _ _=>⟨fun q=>(nomatch q),fun q=>(nomatch q)⟩) ht
theorem LR.step {c:Cx} {h h':Heap} {sc:Scope} {m:SV} {l:Lc} {fs ds:List Addr} (x:LR c h sc m l) (k:Step fs ds h h') (hm:∀ a,a ∈ fs \/ a ∈ ds->c.mut a):LR c h' sc m l :=
 ⟨x.1,fun i n e v hv=>let ⟨y,h1,h2⟩:=x.2 i n e v hv; ⟨y,h1,h2.step k hm⟩⟩
section
variable {c:Cx} {A:Around} {sc:Scope} {L:Addr} {s:Shared} {m:SV} {l:Lc} {sf sf':Stem}
theorem St.step (S:St c A sc L s m l sf) {h':Heap} {t:Nat} (k:Step c.fs c.ds s.heap h') (z:SelfAt c h' sf') (ht:c.pos = true->0 < t):St c A sc L { s with heap:=h',toks:=t } m l sf' :=
 ⟨S.toSit.step k z ht,ns_up S.ns fun o e=>k.up e (fs_ds S.toSit S.inL),S.inL,S.loc.step k fun a q=>q⟩
theorem St.keep (S:St c A sc L s m l sf) {h':Heap} {t:Nat} (k:Step c.fs [] s.heap h') (ht:c.pos = true->0 < t):St c A sc L { s with heap:=h',toks:=t } m l sf :=
 S.step (k.wide (fun _ q=>nomatch q)) (selfAt_step S.toSit k fun _ _ _=>⟨fun q=>(nomatch q),fun q=>(nomatch q)⟩) ht
theorem St.tok (S:St c A sc L s m l sf) (t:Nat) (ht:c.pos = true->0 < t):St c A sc L { s with toks:=t } m l sf:=S.keep (h':=s.heap) (Step.refl ..) ht
theorem St.get (S:St c A sc L s m l sf) {i:Nat} {n:Str} {v:V} (e:(locsOf sc)[i]? = some n) (hv:l[i]?.join = some v):∃ x,m n = some x /\ VR c s.heap v x:=S.loc.2 i n e v hv
theorem St.store (S:St c A sc L s m l sf) {h':Heap} {t i:Nat} {n:Str} {v:V} {x:Value} (hn:h'.Ns L (fun y=>if y = n then some x else m y)) (k:Heap.SameBut L s.heap h')
 (e:(locsOf sc)[i]? = some n) (hu:(locsOf sc).Nodup) (r:VR c s.heap v x) (ht:c.pos = true->0 < t):St c A sc L { s with heap:=h',toks:=t } (fun y=>if y = n then some x else m y) (l.set i (some v)) sf:=by
 have st:Step c.fs [L] s.heap h':=Step.sameBut k (.head _)
 have hm:∀ a,a ∈ c.fs \/ a ∈ [L]->c.mut a:=fun a q=>.inl (q.elim id fun q=>by simp at q; rw [q]; exact S.inL)
 refine ⟨⟨base_step S.toSit st hm,S.frm,S.hd,fr_step S.fr fun a ma o es n' e1 e2=>?_,S.gens,S.os,S.dr,selfAt_step S.toSit st fun x d hx=>?_,ht⟩,hn,S.inL,⟨by rw [List.length_set]; exact S.loc.1,fun j n' ej v' hv=>?_⟩⟩
 ·by_cases q:a = L
  ·subst q
   obtain ⟨o',es',ep',ho',hd',_⟩:=hn
   exact ⟨o',es',ep',ho',hd'⟩
  ·exact ⟨o,es,n',(k.2 a q).trans e1,e2⟩
 ·obtain ⟨h1,h2,_⟩:=S.slf.at_ x d hx
  exact ⟨fun q=>by simp at q; rw [q] at h2; exact h2 S.inL,fun q=>by simp at q; rw [q] at h1; exact h1 S.inL⟩
 ·by_cases q:j = i
  ·subst q
   rw [e] at ej; cases ej
   have hlt:j < l.length:=by
    rw [S.loc.1]; exact (List.getElem?_eq_some_iff.mp e).1
   rw [List.getElem?_set_self hlt] at hv
   simp at hv; subst hv
   exact ⟨x,by simp,r.step st hm⟩
  ·rw [List.getElem?_set_ne (Ne.symm q)] at hv
   have hne:n' ≠ n:=fun z=>q (by
    subst z
    exact nodup_at hu ej e)
   obtain ⟨y,h1,h2⟩:=S.loc.2 j n' ej v' hv
   exact ⟨y,by simp [hne,h1],h2.step st hm⟩
theorem St.iter {s:Shared} {m:SV} {l:Lc} {sf:Stem} (S:St c A sc L s m l sf) {h':Heap} {t:Nat} {I:Addr} {oI:Obj} {vI:Array Value} (hI:s.heap.get? I = some oI) (hd:oI.data = .fields vI) (h0:c.H0.get? I = none)
 (hk:∀ b o,b ≠ I->s.heap.get? b = some o->h'.get? b = some o) (ht:c.pos = true->0 < t):St c A sc L { s with heap:=h',toks:=t } m l sf:=by
 have ne:∀ {b:Addr} {o:Obj},s.heap.get? b = some o->(∀ vs,o.data ≠ .fields vs)->b ≠ I:=fun {b o} ho hn e=>by subst e; rw [hI] at ho; cases ho; exact hn _ hd
 refine ⟨⟨fun b o e=>hk b o (fun z=>by subst z; rw [h0] at e; cases e) (S.base b o e),S.frm,S.hd,fr_step S.fr fun a ma o es n e1 e2=>⟨o,es,n,hk a o (ne e1 fun vs z=>by rw [e2] at z; cases z) e1,e2⟩,S.gens,S.os,S.dr,⟨fun x d hx=>?_⟩,ht⟩,?_,S.inL,⟨S.loc.1,fun i n e v hv=>?_⟩⟩
 ·obtain ⟨h1,h2,h3,h4,h5,h6,mA,h7,h8⟩:=S.slf.at_ x d hx
  refine ⟨h1,h2,h3,h4,h5,hk x _ (ne h6 fun vs z=>by cases z) h6,mA,ns1_up h7 fun o e=>?_,h8⟩
  obtain ⟨od,es,ep,ho,hdd,_⟩:=h7
  rw [ho] at e; cases e
  exact ⟨_,hk d _ (ne ho fun vs z=>by rw [hdd] at z; cases z) ho⟩
 ·refine ns_up S.ns fun o e=>?_
  obtain ⟨od,es,ep,ho,hdd,_⟩:=S.ns
  rw [ho] at e; cases e
  exact ⟨_,hk L _ (ne ho fun vs z=>by rw [hdd] at z; cases z) ho⟩
 ·obtain ⟨y,h1,h2⟩:=S.loc.2 i n e v hv
  exact ⟨y,h1,h2.mv rfl rfl rfl rfl fun a o hm e hn=>⟨hk a o (ne e hn) e,hm⟩⟩
end
structure KOk (K:Frag) (FC AC:Addr):Prop where
 ga:findIn K (.ref FC) "__getattribute__" = some (some (.builtin "object.__getattribute__"))
 gt:findIn K (.ref FC) "__getattr__" = some none
 sa:findIn K (.ref FC) "__setattr__" = some (some (.builtin "object.__setattr__"))
 po:plainOver K FC = true
 hd:hasDictIn K FC = true
 fld:∀ f,∃ attr,findIn K (.ref FC) (fname f) = some attr /\ noGet K attr = true
 tak:∀ f,takerIn K FC (fname f) = some none
 aga:findIn K (.ref AC) "__getattribute__" = some (some (.builtin "object.__getattribute__"))
 ahd:hasDictIn K AC = true
 aS:findIn K (.ref AC) "s" = some none
 aI:findIn K (.ref AC) "substring_i" = some none
 aR:findIn K (.ref AC) "result" = some none
 len:nsIn K mainGlobals "len" = some none /\ nsIn K builtinsNs "len" = some (some (.builtin "len"))
 ord:nsIn K mainGlobals "ord" = some none /\ nsIn K builtinsNs "ord" = some (some (.builtin "ord"))
 min:nsIn K mainGlobals "min" = some none /\ nsIn K builtinsNs "min" = some (some (.builtin "min"))
 list:nsIn K mainGlobals "list" = some none /\ nsIn K builtinsNs "list" = some (some (.type "list"))
 range:nsIn K mainGlobals "range" = some none /\ nsIn K builtinsNs "range" = some (some (.type "range"))
theorem lookIn_ns {h:Heap} {d:Addr} {mA:SV} (n:h.Ns d mA):∃ od,h.get? d = some od /\ ∀ name,lookIn name od = some (mA name):=by
 obtain ⟨o,es,ep,ho,hd,hk,hf⟩:=n
 refine ⟨o,ho,fun name=>?_⟩
 unfold lookIn
 rw [hd]
 dsimp only
 rw [<- hf name]
 unfold nsFind findBy
 rw [<- Array.find?_toList]
 split
 ·rename_i e he; rw [he]; rfl
 ·rename_i he
  rw [he]
  have:es.toList.any (·.refKey) = false:=by
   rw [List.any_eq_false]
   intro e hm
   obtain ⟨n,t,q⟩:=hk e (by simpa using hm)
   simp [DictEntry.refKey,q]
  rw [this]; rfl
section
variable {c:Cx} {A:Around} {sc:Scope} {L:Addr} {s:Shared} {m:SV} {l:Lc} {sf sf':Stem} {K:Frag} {E:PR} {env:Env}
noncomputable abbrev MD (c:Cx):Model:=model PG c.w
theorem In.here (X:K.In c.H0) (S:Sit c A s sf):K.In s.heap:=X.keeps S.base
theorem loc_spec {x:Str} {i:Nat} (h:isLoc sc i x = true):sc.names.lookup x = some .local /\ (x == ("__debug__":Str)) = false /\ (locsOf sc)[i]? = some x:=by
 unfold isLoc at h
 simpa only [Bool.and_eq_true,beq_iff_eq,Bool.not_eq_true',and_assoc] using h
theorem glob_spec {x:Str} (h:glob sc x = true):sc.names.lookup x = some .globalImplicit /\ (x == ("__debug__":Str)) = false:=by
 unfold glob at h
 simpa only [Bool.and_eq_true,beq_iff_eq,Bool.not_eq_true'] using h
theorem p_loc {x:Str} {pos:Pos} {i:Nat} {v:V} {Q:PR} (S:St c A env.scope env.locals s m l sf) (hk:env.scope.kind = .function) (hx:isLoc env.scope i x = true) (hv:l[i]?.join = some v)
 (h:∀ y,m x = some y->VR c s.heap v y->Q y s):wpAny (MD c) A (eval (.Name x pos) env) Q E s:=by
 obtain ⟨h1,h2,h3⟩:=loc_spec hx
 obtain ⟨y,e,r⟩:=S.get h3 hv
 exact wpAny_Name (wpAny_loadName_local hk h1 S.ns e (h y e r)) h2
theorem nsGet_in {M:Model} {h:Heap} {N:Addr} {x:Str} {r:Option Value} {Q:Option Value->Shared->Prop} (X:K.In s.heap) (e:nsIn K N x = some r) (hq:Q r s):wpAny M A (nsGet N x) Q E s :=
 (looks_nsIn (M:=M) X e).here hq
theorem p_glob {x:Str} {pos:Pos} {v:Value} {Q:PR} (X:K.In s.heap) (hk:env.scope.kind = .function) (hx:glob env.scope x = true) (e:nsIn K mainGlobals x = some (some v)) (h:Q v s) (hg:env.globals = mainGlobals:=by rfl) :
 wpAny (MD c) A (eval (.Name x pos) env) Q E s:=by
 obtain ⟨h1,h2⟩:=glob_spec hx
 refine Name_function_global hk h1 ?_ h2
 unfold loadGlobal
 rw [hg]
 refine wpAny_bind (nsGet_in (h:=s.heap) X e ?_)
 exact wpAny_pure h
theorem p_builtin {x:Str} {pos:Pos} {v:Value} {Q:PR} (X:K.In s.heap) (hk:env.scope.kind = .function) (hx:glob env.scope x = true) (e0:nsIn K mainGlobals x = some none) (e:nsIn K builtinsNs x = some (some v)) (h:Q v s) (hg:env.globals = mainGlobals:=by rfl) (hb:env.builtins = builtinsNs:=by rfl) :
 wpAny (MD c) A (eval (.Name x pos) env) Q E s:=by
 obtain ⟨h1,h2⟩:=glob_spec hx
 refine Name_function_global hk h1 ?_ h2
 unfold loadGlobal
 rw [hg,hb]
 refine wpAny_bind (nsGet_in (h:=s.heap) X e0 ?_)
 refine wpAny_bind (nsGet_in (h:=s.heap) X e ?_)
 exact wpAny_pure h
theorem get_raw {x d:Addr} {f:Fld} {mA:SV} {y:Value} {ex:Bool} {Q:PR} (O:KOk K c.FC c.AC) (X:K.In s.heap) (h6:s.heap.get? x = some (instObj c.FC d)) (hn:s.heap.Ns1 d mA) (e:mA (fname f) = some y) (hy:handedIn y = true)
 (h:Q y { s with toks:=s.toks + 1 }):wpAny (MD c) A (getAttr (.ref x) (fname f) ex) Q E s:=by
 obtain ⟨od,ho,hl⟩:=lookIn_ns hn.ns
 obtain ⟨attr,ha,hg⟩:=O.fld f
 have I:InstAt s.heap x (instObj c.FC d) c.FC (some od):=⟨h6,rfl,rfl,ho⟩
 exact get_value X I O.ga (findObj_own O.hd ha hg (by rw [hl,e])) hy h
theorem p_getF {x d:Addr} {f:Fld} {v:V} {ex:Bool} {Q:PR} (O:KOk K c.FC c.AC) (X:K.In c.H0) (S:Sit c A s sf) (hs:c.slf = some (x,d)) (hv:gt sf f = some v)
 (h:∀ y,FV v y->Q y { s with toks:=s.toks + 1 }):wpAny (MD c) A (getAttr (.ref x) (fname f) ex) Q E s:=by
 obtain ⟨h1,h2,h3,h4,h5,h6,mA,hn,hF⟩:=S.slf.at_ x d hs
 obtain ⟨y,e,r⟩:=hF.has f v hv
 exact get_raw O (In.here X S) h6 hn e (by cases r <;> rfl) (h y r)
theorem p_getA {a d:Addr} {od:Obj} {mA:SV} {n:Str} {v:Value} {ex:Bool} {Q:PR} (O:KOk K c.FC c.AC) (X:K.In s.heap) (h6:s.heap.get? a = some (instObj c.AC d)) (hn:s.heap.Ns d mA)
 (hf:findIn K (.ref c.AC) n = some none) (e:mA n = some v) (hv:handedIn v = true) (h:Q v { s with toks:=s.toks + 1 }):wpAny (MD c) A (getAttr (.ref a) n ex) Q E s:=by
 obtain ⟨od,ho,hl⟩:=lookIn_ns hn
 have I:InstAt s.heap a (instObj c.AC d) c.AC (some od):=⟨h6,rfl,rfl,ho⟩
 exact get_value X I O.aga (findObj_own O.ahd hf rfl (by rw [hl,e])) hv h
noncomputable def allFields:List Str:=[fname .cur,fname .csr,fname .lim,fname .lb,fname .bra,fname .ket,fname .p2,fname .p1,fname .pV]
theorem fld_mem (f:Fld):fname f ∈ allFields:=List.contains_iff_mem.mp (by cases f <;> kernel_rfl)
theorem within_fields {mA:SV} (hF:FieldsAt mA sf) (f:Fld) (y:Value):Within (fun n=>if n = fname f then some y else mA n) allFields:=by
 intro n hn
 by_cases e:∃ g,n = fname g
 ·obtain ⟨g,rfl⟩:=e
  exact fld_mem g
 ·exfalso
  have:∀ g,n ≠ fname g:=fun g z=>e ⟨g,z⟩
  exact hn (by simp [this f,hF.only n this])
theorem selfAt_set {x d:Addr} {mA:SV} {h':Heap} {f:Fld} {v:V} {y:Value} (S:Sit c A s sf) (hs:c.slf = some (x,d)) (hF:FieldsAt mA sf) (r:FV v y) (hv:gt sf' f = some v) (hg:∀ g,g ≠ f->gt sf' g = gt sf g)
 (hn:h'.Ns1 d (fun n=>if n = fname f then some y else mA n)) (k:Heap.SameBut d s.heap h'):SelfAt c h' sf':=by
 refine ⟨fun x' d' hs'=>?_⟩
 rw [hs] at hs'; cases hs'
 obtain ⟨h1,h2,h3,h4,h5,h6,_⟩:=S.slf.at_ x d hs
 refine ⟨h1,h2,h3,h4,h5,(k.2 x h3).trans h6,_,hn,⟨fun g w hw=>?_,fun n hn'=>?_⟩⟩
 ·by_cases e:g = f
  ·subst e
   rw [hv] at hw; cases hw
   exact ⟨y,if_pos rfl,r⟩
  ·rw [hg g e] at hw
   obtain ⟨z,e1,e2⟩:=hF.has g w hw
   exact ⟨z,(if_neg fun z=>e (fname_inj z)).trans e1,e2⟩
 ·rw [if_neg (hn' f)]; exact hF.only n hn'
theorem set_raw {x d:Addr} {f:Fld} {mA:SV} {y:Value} {Q:Unit->Shared->Prop} (O:KOk K c.FC c.AC) (X:K.In s.heap) (h6:s.heap.get? x = some (instObj c.FC d)) (hn:s.heap.Ns1 d mA) (hw:Within (fun n=>if n = fname f then some y else mA n) allFields)
 (h:∀ h' t,h'.Ns1 d (fun n=>if n = fname f then some y else mA n)->Heap.SameBut d s.heap h'->Q () { s with heap:=h',toks:=t + 1 }):wpAny (MD c) A (setAttr (.ref x) (fname f) y) Q E s:=by
 obtain ⟨od,ho,hl⟩:=lookIn_ns hn.ns
 have I:InstAt s.heap x (instObj c.FC d) c.FC (some od):=⟨h6,rfl,rfl,ho⟩
 refine set_plain X I O.sa ?_
 have X':K.In ({ s with toks:=s.toks + 1 }:Shared).heap:=X
 have I':InstAt ({ s with toks:=s.toks + 1 }:Shared).heap x (instObj c.FC d) c.FC (some od):=I
 refine osa_open X' I' O.po (O.tak f) fun b=>?_
 obtain ⟨cdt,hc,hd'⟩:=any_some (show (clsIn K c.FC).any (·.hasDict) = true from O.hd)
 refine wpAny_bind (wpAny_pure (wpAny_bind (wpAny_bind (wpAny_loadPart h6 (wpAny_bind ((looks_clsIn X' hc).here ?_))))))
 rw [hd']
 refine wpAny_pure (a:=some d) (wpAny_bind ?_)
 refine wpAny_pure (wpAny_bind (wpAny_nsSet1 (s:={ s with toks:=s.toks + 1 }) hn fun h' hn' k=>?_))
 obtain ⟨oD,esD,epD,hoD,hdD,hcD⟩:=hn'.count hw
 exact wpAny_bind (wpAny_lookBehind hoD (by rw [hdD]; exact pastItsLine_dict (by rw [sizeLine_eq]; have h9:allFields.length = 9:=rfl; lia)) (wpAny_pure (h h' _ hn' k)))
theorem p_setF0 {x d:Addr} {f:Fld} {v:V} {y:Value} {Q:Unit->Shared->Prop} (O:KOk K c.FC c.AC) (X:K.In c.H0) (S:Sit c A s sf) (hs:c.slf = some (x,d)) (r:FV v y) (hv:gt sf' f = some v) (hg:∀ g,g ≠ f->gt sf' g = gt sf g)
 (h:∀ h' t,Heap.SameBut d s.heap h'->SelfAt c h' sf'->Q () { s with heap:=h',toks:=t + 1 }):wpAny (MD c) A (setAttr (.ref x) (fname f) y) Q E s:=by
 obtain ⟨h1,h2,h3,h4,h5,h6,mA,hn,hF⟩:=S.slf.at_ x d hs
 exact set_raw O (In.here X S) h6 hn (within_fields hF f y) fun h' t hn' k=>h h' t k (selfAt_set S hs hF r hv hg hn' k)
theorem p_setF {x d:Addr} {f:Fld} {v:V} {y:Value} {Q:Unit->Shared->Prop} (O:KOk K c.FC c.AC) (X:K.In c.H0) (S:St c A sc L s m l sf) (hs:c.slf = some (x,d)) (r:FV v y) (hv:gt sf' f = some v) (hg:∀ g,g ≠ f->gt sf' g = gt sf g)
 (h:∀ h' t,Step c.fs c.ds s.heap h'->St c A sc L { s with heap:=h',toks:=t } m l sf'->Q () { s with heap:=h',toks:=t }):wpAny (MD c) A (setAttr (.ref x) (fname f) y) Q E s:=by
 refine p_setF0 O X S.toSit hs r hv hg fun h' t k z=>?_
 have st:Step c.fs c.ds s.heap h':=Step.sameBut k (by unfold Cx.ds; rw [hs]; exact .head _)
 exact h h' (t + 1) st (S.step st z fun _=>Nat.succ_pos _)
theorem p_method {x d f:Addr} {n:Str} {pl:Sem Bool} {Q:Value × List Value->Shared->Prop} (O:KOk K c.FC c.AC) (X:K.In c.H0) (S:Sit c A s sf) (hs:c.slf = some (x,d))
 (hf:findIn K (.ref c.FC) n = some (some (.ref f))) (ht:typeIn K (.ref f) = some (.type "function")) (hn':∀ g,n ≠ fname g) (h:Q (.ref f,[.ref x]) s):wpAny (MD c) A (getMethod (.ref x) n pl) Q E s:=by
 obtain ⟨h1,h2,h3,h4,h5,h6,mA,hn,hF⟩:=S.slf.at_ x d hs
 obtain ⟨od,ho,hl⟩:=lookIn_ns hn.ns
 have I:InstAt s.heap x (instObj c.FC d) c.FC (some od):=⟨h6,rfl,rfl,ho⟩
 exact method_fn (In.here X S) I O.ga O.gt hf ht (by show (lookIn n od).map _ = _; rw [hl,hF.only n hn']; rfl) h
end
end Mine
end
noncomputable section
open PySem PySem.W PyProof.Rows PySem.Calls PySem.StrLaws Builtin Builtin.Str
set_option Elab.async false
set_option autoImplicit false
set_option maxRecDepth 100000
set_option linter.all false
set_option genInjectivity false
set_option genSizeOf false
set_option bootstrap.genMatcherCode false
namespace Mine
theorem tx_append (a b:T):tx a ++ tx b = tx (a ++ b):=Str.ext' (by show a.toArray ++ b.toArray = _; simp)
theorem tx_len (a:T):(tx a).length = a.length:=by show a.toArray.size = _; simp
theorem tx_beq (a b:T):(tx a == tx b) = decide (a = b):=by
 by_cases h:a = b
 ·subst h; simp
 ·rw [decide_eq_false h]
  refine beq_eq_false_iff_ne.mpr fun e=>h ?_
  have:=congrArg (fun s:Str=>s.cps.toList) e
  simpa using this
theorem tx_inj {a b:T} (h:tx a = tx b):a = b:=by
 have:=congrArg (fun s:Str=>s.cps.toList) h
 simpa using this
theorem tx_at (s:T) (i:Int):((seqIndex? i (tx s).length).bind ((tx s).cps[·]?)) = pyAt s i:=by
 rw [tx_len]
 unfold seqIndex? pyAt
 by_cases h:i < 0
 ·simp only [h,if_true]
  by_cases k:0 <= i + s.length
  ·have:i + (s.length:Int) < s.length:=by lia
   simp [k,this]
  ·simp [k]
 ·simp only [h,if_false]
  by_cases k:i < s.length
  ·have:0 <= i:=by lia
   simp [k,this]
  ·have:s.length <= i.toNat:=by lia
   simp [k]
   exact this
theorem adj_le (n:Nat) (i:Int):adj n i <= n:=by
 unfold adj; split <;> lia
theorem tx_slice (s:T) (lo hi:Option Int):Txt.slice (tx s) lo hi = tx (slice s lo hi):=by
 have key:strSliceIndices lo hi 1 s.length = (List.range (((hi.map (adj s.length)).getD s.length) - ((lo.map (adj s.length)).getD 0))).map (fun k=>((lo.map (adj s.length)).getD 0) + k):=by
  have e1:∀ i:Int,max (0:Int) (min (if i < 0 then i + (s.length:Int) else i) (s.length:Int)) = (adj s.length i:Nat):=by
   intro i; unfold adj; split <;> lia
  unfold strSliceIndices
  simp only [show ((1:Int) > 0) = True from by simp,if_true]
  have c1:(match lo with | none=>(0:Int) | some i=>max 0 (min (if i < 0 then i + (s.length:Int) else i) (s.length:Int))) = (((lo.map (adj s.length)).getD 0:Nat):Int):=by
   cases lo with
   | none=>rfl
   | some i=>exact e1 i
  have c2:(match hi with | none=>(s.length:Int) | some i=>max 0 (min (if i < 0 then i + (s.length:Int) else i) (s.length:Int))) = (((hi.map (adj s.length)).getD s.length:Nat):Int):=by
   cases hi with
   | none=>rfl
   | some i=>exact e1 i
  refine Eq.trans (congr (congr (congrArg sliceRange c1) c2) (rfl:(1:Int) = 1)) ?_
  generalize (lo.map (adj s.length)).getD 0 = a
  generalize (hi.map (adj s.length)).getD s.length = b
  unfold sliceRange
  by_cases h:a < b
  ·have e3:(((b:Int) - a + 1 - 1) / 1).toNat = b - a:=by first | lia | (simp; done) | (simp; lia)
   simp only [show ((1:Int) > 0) = True from by simp,if_true,show ((a:Int) < b) = True from by simp [h],e3]
   refine List.map_congr_left fun k _=>?_
   lia
  ·have:b - a = 0:=by lia
   simp [h,this]
 have hA:(lo.map (adj s.length)).getD 0 <= s.length:=by cases lo <;> simp [adj_le]
 have hB:(hi.map (adj s.length)).getD s.length <= s.length:=by cases hi <;> simp [adj_le]
 have got:((strSliceIndices lo hi 1 s.length).filterMap ((tx s).cps[·]?)) = slice s lo hi:=by
  rw [key]
  unfold slice
  generalize (lo.map (adj s.length)).getD 0 = a at *
  generalize (hi.map (adj s.length)).getD s.length = b at *
  have hfun:(fun k:Nat=>(tx s).cps[k]?) = (fun k:Nat=>s[k]?):=by funext k; simp
  rw [hfun]
  by_cases h:a <= b
  ·rw [picks s (b - a) a (by lia),List.drop_take]
  ·have e:b - a = 0:=by lia
   rw [e]
   simp
   lia
 unfold Txt.slice
 rw [tx_len]
 split
 ·rename_i q
  have hl:(strSliceIndices lo hi 1 s.length).length = s.length:=by simpa using q
  rw [key] at hl
  simp at hl
  unfold slice
  generalize (lo.map (adj s.length)).getD 0 = a at *
  generalize (hi.map (adj s.length)).getD s.length = b at *
  by_cases z:s.length = 0
  ·have:s = []:=List.length_eq_zero_iff.mp z
   subst this; simp
  ·have ha:a = 0:=by lia
   have hb:b = s.length:=by lia
   rw [ha,hb]; simp
 ·rw [got]
theorem subAt_drop (s a:T) (i:Nat):subAt (tx s) (tx a) i = decide ((s.drop i).take a.length = a):=by
 unfold subAt
 rw [beq_toList]
 rw [Array.toList_extract]
 simp only [tx_len,List.extract_eq_take_drop]
 rw [show i + a.length - i = a.length by lia]
 rw [Bool.eq_iff_iff]
 simp
theorem tx_starts (s a:T):Txt.startswith (tx s) (tx a) = a.isPrefixOf s:=by
 unfold Txt.startswith
 rw [subAt_drop,isPrefixOf_iff,tx_len,tx_len]
 rw [Bool.eq_iff_iff]
 simp
 intro h
 have:=congrArg List.length h
 simp at this
 lia
theorem tx_ends (s a:T):Txt.endswith (tx s) (tx a) = a.isSuffixOf s:=by
 unfold Txt.endswith
 rw [subAt_drop,tx_len,tx_len]
 rw [Bool.eq_iff_iff,List.isSuffixOf_iff_suffix]
 simp
 constructor
 ·rintro ⟨h1,h2⟩
  refine ⟨s.take (s.length - a.length),?_⟩
  have e:(s.drop (s.length - a.length)).length = a.length:=by simp; omega
  rw [List.take_of_length_le (by lia)] at h2
  have:=List.take_append_drop (s.length - a.length) s
  rw [h2] at this
  exact this
 ·rintro ⟨t,rfl⟩; simp
theorem at_drop (s a:T) (i:Nat):At (tx s) (tx a) s.length i ↔ a.isPrefixOf (s.drop i) = true /\ i + a.length <= s.length:=by
 unfold At
 rw [subAt_drop,isPrefixOf_iff,tx_len]
 exact And.comm
theorem replAll_cons (a b:T) (n x:Nat) (r:T):replAll a b (n + 1) (x :: r) = if a.isPrefixOf (x :: r) then b ++ replAll a b n ((x :: r).drop a.length) else x :: replAll a b n r:=rfl
theorem replAll_none {a b:T}:∀ (n:Nat) (l:T),(∀ k,a.isPrefixOf (l.drop k) = false)->replAll a b n l = l
 | 0,l,_=>rfl
 | n + 1,[],_=>rfl
 | n + 1,x :: r,h=>by
  have h0:=h 0
  simp only [List.drop_zero] at h0
  rw [replAll_cons]
  simp only [h0,Bool.false_eq_true,if_false]
  rw [replAll_none n r fun k=>h (k + 1)]
theorem replAll_skip {a b:T}:∀ (d n:Nat) (l:T),(∀ k,k < d->a.isPrefixOf (l.drop k) = false)->d <= l.length->replAll a b (d + n) l = l.take d ++ replAll a b n (l.drop d)
 | 0,n,l,_,_=>by simp
 | d + 1,n,[],_,h=>by simp at h
 | d + 1,n,x :: r,h,hl=>by
  have h0:=h 0 (by lia)
  simp only [List.drop_zero] at h0
  rw [show d + 1 + n = (d + n) + 1 by lia]
  rw [replAll_cons]
  simp only [h0,Bool.false_eq_true,if_false]
  rw [replAll_skip d n r (fun k hk=>h (k + 1) (by lia)) (by simp at hl; omega)]
  simp
theorem replAll_fuel {a b:T} (ha:a ≠ []):∀ (n m:Nat) (l:T),l.length <= n->l.length <= m->replAll a b n l = replAll a b m l
 | 0,0,l,_,_=>rfl
 | 0,m + 1,l,h,_=>by have:l = []:=List.length_eq_zero_iff.mp (by lia); subst this; rfl
 | n + 1,0,l,_,h=>by have:l = []:=List.length_eq_zero_iff.mp (by lia); subst this; rfl
 | n + 1,m + 1,[],_,_=>rfl
 | n + 1,m + 1,x :: r,h1,h2=>by
  have hp:1 <= a.length:=by cases a with | nil=>exact absurd rfl ha | cons=>simp
  rw [replAll_cons,replAll_cons]
  simp only [List.length_cons] at h1 h2
  rw [replAll_fuel ha n m ((x :: r).drop a.length) (by simp; lia) (by simp; lia),replAll_fuel ha n m r (by lia) (by lia)]
theorem not_at {s a:T} (ha:a ≠ []) {k:Nat} (h:¬ At (tx s) (tx a) s.length k):a.isPrefixOf (s.drop k) = false:=by
 rw [at_drop] at h
 cases e:a.isPrefixOf (s.drop k)
 ·rfl
 ·exfalso
  refine h ⟨e,?_⟩
  rw [isPrefixOf_iff,decide_eq_true_iff] at e
  have hp:1 <= a.length:=by cases a with | nil=>exact absurd rfl ha | cons=>simp
  have:=congrArg List.length e
  simp at this
  lia
theorem strSub_tx (s:T) (i j:Nat):(strSub (tx s) i j).cps.toList = (s.drop i).take (j - i):=by rw [strSub_toList]
theorem join_parts (s a b:T) (ha:a ≠ []):∀ (cuts:List Nat) (i f n:Nat),ChainG (tx s) (tx a) s.length i cuts f->(∀ k,f <= k->¬ At (tx s) (tx a) s.length k)->(s.drop i).length <= n->i <= s.length ->
 (Str.join (tx b) (partsFrom (tx s) a.length i cuts)).cps.toList = replAll a b n (s.drop i)
 | [],i,f,n,h,hn,hl,hi=>by
  have e:f = i:=h
  subst e
  show (strSub (tx s) f (tx s).length).cps.toList = _
  rw [strSub_tx,tx_len,replAll_none n _ fun k=>by rw [List.drop_drop]; exact not_at ha (hn _ (by lia))]
  rw [List.take_of_length_le (by simp)]
 | c :: r,i,f,n,h,hn,hl,hi=>by
  obtain ⟨h1,h2,h3,h4⟩:=h
  have hp:1 <= a.length:=by cases a with | nil=>exact absurd rfl ha | cons=>simp
  have h2':=(at_drop s a c).mp h2
  rw [tx_len] at h4
  have ih:=join_parts s a b ha r (c + a.length) f (s.length) h4 hn (by simp) h2'.2
  have:∃ p q,partsFrom (tx s) a.length (c + a.length) r = p :: q:=by cases r <;> exact ⟨_,_,rfl⟩
  obtain ⟨p,q,hpq⟩:=this
  show (Str.join (tx b) (strSub (tx s) i c :: partsFrom (tx s) a.length (c + a.length) r)).cps.toList = _
  rw [hpq]
  show (strSub (tx s) i c ++ tx b ++ Str.join (tx b) (p :: q)).cps.toList = _
  rw [<- hpq]
  simp only [Str.cps_append,Array.toList_append]
  rw [ih,strSub_tx]
  rw [replAll_fuel ha n ((c - i) + (s.length + 1)) (s.drop i) hl (by simp; lia)]
  rw [replAll_skip (c - i) (s.length + 1) (s.drop i) (fun k hk=>by rw [List.drop_drop]; exact not_at ha (h3 _ (by lia) (by lia))) (by simp; lia)]
  rw [List.append_assoc]
  congr 1
  rw [List.drop_drop,show i + (c - i) = c by lia]
  have hc:c < s.length:=by lia
  cases e:s.drop c with
  | nil=>simp at e; lia
  | cons x t =>
   rw [replAll_cons]
   rw [<- e,h2'.1]
   simp [List.drop_drop]
theorem tx_repl (s a b:T) (ha:a ≠ []):Txt.replace (tx s) (tx a) (tx b) = tx (replAll a b s.length s):=by
 have hp:1 <= (tx a).length:=by rw [tx_len]; cases a with | nil=>exact absurd rfl ha | cons=>simp
 obtain ⟨f,hG,hn⟩:=occ_tight (tx s) (tx a) hp
 have hz:((tx a).length == 0) = false:=by simp; lia
 unfold Txt.replace
 rw [hz,Bool.false_and,Bool.or_false]
 rw [tx_len] at hG hn ⊢
 have J:=join_parts s a b ha _ 0 f s.length hG hn (by simp) (by lia)
 rw [List.drop_zero] at J
 split
 ·rename_i he
  have e0:=List.isEmpty_iff.mp he
  rw [e0] at J
  rw [<- J]
  refine Str.ext' ?_
  show _ = ((strSub (tx s) 0 (tx s).length).cps.toList).toArray
  rw [strSub_tx,tx_len]; simp
 ·rw [glued_eq_join,tx_len,partsBetween_eq]
  refine Str.ext' ?_
  rw [<- J]
theorem tx_upper (c:Nat) (h:c = 117 \/ c = 105 \/ c = 121):Txt.upper (tx [c]) = tx [c - 32]:=by
 rcases h with rfl | rfl | rfl <;> decide +kernel
end Mine
end
noncomputable section
open PySem PySem.W PyProof.Rows PySem.Calls
set_option Elab.async false
set_option autoImplicit false
set_option maxRecDepth 100000
set_option linter.all false
set_option genInjectivity false
set_option genSizeOf false
set_option bootstrap.genMatcherCode false
namespace Mine
section
variable {c:Cx} {A:Around} {s:Shared} {sf:Stem} {E:PR}
abbrev Nxt (c:Cx) (s:Shared) (v:V) (Q:PR):Prop:=∀ z h' t,Step c.fs [] s.heap h'->VR c h' v z->(c.pos = true->0 < t)->Q z { s with heap:=h',toks:=t }
theorem Nxt.val {v:V} {Q:PR} (h:Nxt c s v Q) {z:Value} (r:VR c s.heap v z) (t:Nat):Q z { s with toks:=t + 1 }:=h z s.heap (t + 1) (Step.refl ..) r fun _=>Nat.succ_pos _
theorem Nxt.here {v:V} {Q:PR} (h:Nxt c s v Q) {z:Value} (r:VR c s.heap v z) (S:Sit c A s sf):Q z s:=h z s.heap s.toks (Step.refl ..) r S.tk
theorem lim_line:lim + lim <= sizeLine:=by rw [sizeLine_eq]; decide
theorem small_spec {n:Int} (h:small n = true):-1000000000 < n /\ n < 1000000000:=by
 unfold small at h; simpa using h
theorem small_nat {n:Int} (h:small n = true):n.natAbs < 2 ^ 30:=by
 have:=small_spec h; lia
theorem VR.int_inv {n:Int} {h:Heap} {x:Value} (r:VR c h (.int n) x):∃ t,x = .int n t:=by cases r; exact ⟨_,rfl⟩
theorem VR.str_inv {n:T} {h:Heap} {x:Value} (r:VR c h (.str n) x):∃ t,x = .str (tx n) t /\ n.length <= lim:=by cases r; exact ⟨_,rfl,by assumption⟩
theorem VR.list_inv {n:List V} {h:Heap} {x:Value} (r:VR c h (.list n) x):∃ a vals,x = .ref a /\ ¬ c.mut a /\ h.IsList a (List.toArray vals) /\ n.length <= lim /\ VRs c h n vals:=by
 cases r; exact ⟨_,_,rfl,by assumption,by assumption,by assumption,by assumption⟩
theorem VR.dict_inv {ks:List T} {xs:List V} {h:Heap} {x:Value} (r:VR c h (.dict ks xs) x):∃ a vals,x = .ref a /\ ¬ c.mut a /\ DictAt c.w h a ks vals /\ ((ks.length <= lim /\ ∀ k ∈ ks,k.length <= lim) /\ a ≠ sysModules) /\ VRs c h xs vals:=by
 cases r; exact ⟨_,_,rfl,by assumption,by assumption,by assumption,by assumption⟩
theorem bits_small {n:Int} (h:small n = true):Builtin.Int.intBits n <= 30:=by
 unfold Builtin.Int.intBits
 have:=small_nat h
 split
 ·lia
 ·rename_i q
  have:=(Nat.log2_lt (by simpa using q)).mpr this
  lia
theorem Sit.inMut (S:Sit c A s sf):∀ a,a ∈ c.fs \/ a ∈ []->c.mut a:=fun a q=>.inl (q.elim id fun z=>nomatch z)
theorem p_cat {a b:T} {t u:Tok} {Q:PR} (S:Sit c A s sf) (h1:a.length <= lim) (h2:b.length <= lim) (hl:(a ++ b).length <= lim) (h:Nxt c s (.str (a ++ b)) Q) :
 (if ((tx a).length == 0) = true then Made.val (Value.str (tx b) u) else if ((tx b).length == 0) = true then Made.val (Value.str (tx a) t) else Made.str (tx a ++ tx b)).post Q s:=by
 rw [tx_len,tx_len]
 split
 ·rename_i q
  have:a = []:=List.length_eq_zero_iff.mp (by simpa using q)
  subst this
  exact h.here (.str _ _ h2) S
 ·split
  ·rename_i q
   have:b = []:=List.length_eq_zero_iff.mp (by simpa using q)
   subst this
   rw [List.append_nil] at h
   exact h.here (.str _ _ h1) S
  ·rw [tx_append]
   exact ⟨by rw [tx_len]; have:=lim_line; lia,h.val (.str _ _ hl) _⟩
theorem VR.tup_inv {n:List V} {h:Heap} {x:Value} (r:VR c h (.tup n) x):∃ a vals,x = .ref a /\ ¬ c.mut a /\ h.IsTuple a (List.toArray vals) /\ n.length <= lim /\ VRs c h n vals:=by
 cases r; exact ⟨_,_,rfl,by assumption,by assumption,by assumption,by assumption⟩
theorem VR.bool_inv {b:Bool} {h:Heap} {x:Value} (r:VR c h (.bool b) x):x = .bool b:=by cases r; rfl
theorem int2_inv {a b:V} {h:Heap} {x y:Value} {G:Int->Int->Prop} (ra:VR c h a x) (rb:VR c h b y) (hv:int2 a b G):∃ m n t u,x = .int m t /\ y = .int n u /\ G m n:=by
 obtain ⟨m,rfl,h1⟩:=int1_inv hv
 obtain ⟨n,rfl,h2⟩:=int1_inv h1
 obtain ⟨t,rfl⟩:=ra.int_inv
 obtain ⟨u,rfl⟩:=rb.int_inv
 exact ⟨m,n,t,u,rfl,rfl,h2⟩
theorem str2_inv {a b:V} {h:Heap} {x y:Value} {G:T->T->Prop} (ra:VR c h a x) (rb:VR c h b y) (hv:str2 a b G):∃ m n t u,x = .str (tx m) t /\ y = .str (tx n) u /\ G m n /\ m.length <= lim /\ n.length <= lim:=by
 obtain ⟨m,rfl,hm⟩:=str1_inv hv
 obtain ⟨n,rfl,hn⟩:=str1_inv hm
 obtain ⟨t,rfl,h1⟩:=ra.str_inv
 obtain ⟨u,rfl,h2⟩:=rb.str_inv
 exact ⟨m,n,t,u,rfl,rfl,hn,h1,h2⟩
theorem p_lists {a b:List V} {x y:Value} {G:V->Prop} {Q:PR} (S:Sit c A s sf) (ra:VR c s.heap (.list a) x) (rb:VR c s.heap (.list b) y) (hv:Must (decide (a.length + b.length <= lim)) (G (.list (a ++ b)))) (h:∀ v,G v->Nxt c s v Q):wpAny (MD c) A (binaryOp .Add x y) Q E s:=by
 have q:=of_decide_eq_true hv.t
 obtain ⟨l1,v1,rfl,n1,i1,k1,r1⟩:=ra.list_inv
 obtain ⟨l2,v2,rfl,n2,i2,k2,r2⟩:=rb.list_inv
 obtain ⟨⟨cls,dd,data,sl⟩,ho,hc,n,hd⟩:=id i1
 obtain ⟨⟨cls2,dd2,data2,sl2⟩,ho2,hc2,n2,hd2⟩:=id i2
 simp only at hc hd hc2 hd2
 subst hc hd hc2 hd2
 have e:v1.toArray ++ v2.toArray = (v1 ++ v2).toArray:=by simp
 refine concat_meets ⟨_,ho,rfl⟩ ⟨_,ho2,rfl⟩ noFill_list_add seq_list_add PySem.F.slot_list_add PySem.F.entry_list_add (PySem.F.args_list_add_2 _ _) (list_addW l1 l2 v1.toArray v2.toArray n n2 dd dd2 sl sl2 (by have:=r1.len; have:=r2.len; have:=lim_line; simp; lia)) ⟨ho,ho2,?_⟩
 rw [e]
 refine h _ hv.p _ _ s.toks (Step.push _ _ _ _) ?_ S.tk
 have st:Step c.fs [] s.heap (s.heap.push { cls:=.type "list",data:=Data.seq (v1 ++ v2).toArray }):=Step.push _ _ _ _
 exact .list S.fresh ⟨_,Heap.get?_push_size _ rfl,rfl,_,rfl⟩ (by rw [List.length_append]; exact q) ((r1.step st S.inMut).append (r2.step st S.inMut))
theorem p_bin {op:Operator} {a b:V} {x y:Value} {G:V->Prop} {Q:PR} (S:Sit c A s sf) (ra:VR c s.heap a x) (rb:VR c s.heap b y) (hv:wBin op a b G)
 (h:∀ v,G v->Nxt c s v Q):wpAny (MD c) A (binaryOp op x y) Q E s:=by
 cases op with
 | Add =>
  cases a with
  | int m =>
   obtain ⟨m,n,t,u,rfl,rfl,hp⟩:=int2_inv (G:=fun m n=>G (.int (m + n))) ra rb hv
   exact add_int ((h _ hp).val (.int _ _) _)
  | str m =>
   obtain ⟨m,n,t,u,rfl,rfl,hp,h1,h2⟩:=str2_inv (G:=fun m n=>Cat m n G) ra rb hv
   exact P.add_str (p_cat S h1 h2 hp.len (h _ hp.p))
  | list m =>
   obtain ⟨n,rfl,hp⟩:=list1_inv hv
   exact p_lists S ra rb hp h
  | _=>exact hv.elim
 | Sub =>
  obtain ⟨m,n,t,u,rfl,rfl,hp⟩:=int2_inv ra rb hv
  exact sub_int ((h _ hp).val (.int _ _) _)
 | Mult =>
  obtain ⟨m,n,t,u,rfl,rfl,hp⟩:=int2_inv ra rb hv
  have q:=Bool.and_eq_true_iff.mp hp.t
  refine AutoIntOps.mul_0 ((h _ hp.p).val (.int _ _) _) ?_
  unfold IntMulOk
  have h1:=bits_small q.1
  have:decide (Builtin.Int.intBits m > shortFactorBits) = false:=decide_eq_false (Nat.not_lt.mpr (Nat.le_trans h1 (by decide)))
  rw [this]; exact fT
 | FloorDiv =>
  obtain ⟨m,n,t,u,rfl,rfl,hp⟩:=int2_inv ra rb hv
  have q:=Bool.and_eq_true_iff.mp hp.t
  have q1:=small_nat q.1
  have q2:=of_decide_eq_true q.2
  exact floordiv_int_or S.hd (fun e=>by lia) (fun _=>(h _ hp.p).val (.int _ _) _) fun _=>.inl (PyProof.noPylong_small (by lia))
 | Mod =>
  obtain ⟨m,n,t,u,rfl,rfl,hp⟩:=int2_inv ra rb hv
  have q:=of_decide_eq_true hp.t
  exact mod_int' (by lia) ((h _ hp.p).val (.int _ _) _)
 | Pow =>
  obtain ⟨m,n,t,u,rfl,rfl,hp⟩:=int2_inv ra rb hv
  have q:=Bool.and_eq_true_iff.mp hp.t
  have q':=Bool.and_eq_true_iff.mp q.1
  have h2:=of_decide_eq_true q.2
  have h3:=of_decide_eq_true q'.2
  have h1:=bits_small q'.1
  refine pow_int h3 ?_ ((h _ hp.p).val (.int _ _) _)
  calc (Builtin.Int.intBits m:Int) * n <= 30 * 5:=Int.mul_le_mul (by lia) (by lia) h3 (by lia)
   _ <= _:=by decide
 | RShift =>
  obtain ⟨m,n,t,u,rfl,rfl,hp⟩:=int2_inv ra rb hv
  have q:=Bool.and_eq_true_iff.mp hp.t
  have q2:=of_decide_eq_true q.2
  subst q2
  exact wpAny_rshift1_int (of_decide_eq_true q.1) ((h _ hp.p).val (.int _ _) _)
 | _=>exact hv.elim
theorem p_aug {op:Operator} {a b:V} {x y:Value} {G:V->Prop} {Q:PR} (S:Sit c A s sf) (ra:VR c s.heap a x) (rb:VR c s.heap b y) (hv:wAug op a b G)
 (h:∀ v,G v->Nxt c s v Q):wpAny (MD c) A (inplaceOp op x y) Q E s:=by
 cases op with
 | Add =>
  cases a with
  | int m =>
   obtain ⟨m,n,t,u,rfl,rfl,hp⟩:=int2_inv (G:=fun m n=>G (.int (m + n))) ra rb hv
   exact iadd_int ((h _ hp).val (.int _ _) _)
  | str m =>
   obtain ⟨m,n,t,u,rfl,rfl,hp,h1,h2⟩:=str2_inv (G:=fun m n=>Cat m n G) ra rb hv
   exact P.iadd_str (p_cat S h1 h2 hp.len (h _ hp.p))
  | _=>exact hv.elim
 | Sub =>
  obtain ⟨m,n,t,u,rfl,rfl,hp⟩:=int2_inv ra rb hv
  exact isub_int ((h _ hp).val (.int _ _) _)
 | _=>exact hv.elim
theorem strsAre {h:Heap}:∀ {l:List V} {vals:List Value} {ss:List T},VRs c h l vals->strs? l = some ss->StrsAre vals (ss.map tx)
 | [],_,ss,r,e=>by rw [r.nil_inv]; cases e; exact .nil
 | x :: l,_,ss,r,e=>by
  obtain ⟨y,ys,rfl,a,b⟩:=r.cons_inv
  cases x with
  | str x =>
   obtain ⟨r,e1,rfl⟩:=Option.map_eq_some_iff.mp e
   obtain ⟨t,rfl,_⟩:=a.str_inv
   exact .cons _ _ (strsAre b e1)
  | _=>exact nomatch e
theorem any_tx (m:T):∀ ss:List T,(ss.map tx).any (fun x=>x == tx m) = ss.contains m
 | []=>rfl
 | x :: r=>by
  simp only [List.map_cons,List.any_cons,any_tx m r,tx_beq,List.contains_cons]
  congr 1
  rw [Bool.eq_iff_iff]; simp; exact eq_comm
theorem eq2_inv {a b:V} {h:Heap} {x y:Value} {G:Bool->Prop} (ra:VR c h a x) (rb:VR c h b y) (hv:eq2 a b G):(∃ m n t u,x = .int m t /\ y = .int n u /\ G (decide (m = n))) \/ ∃ m n t u,x = .str (tx m) t /\ y = .str (tx n) u /\ G (decide (m = n)):=by
 cases a with
 | int m=>exact .inl (int2_inv (G:=fun m n=>G (decide (m = n))) ra rb hv)
 | str m=>obtain ⟨m,n,t,u,h1,h2,h3,_⟩:=str2_inv (G:=fun m n=>G (decide (m = n))) ra rb hv; exact .inr ⟨m,n,t,u,h1,h2,h3⟩
 | _=>exact hv.elim
theorem inK_inv {a b:V} {h:Heap} {x y:Value} {G:Bool->Prop} (ra:VR c h a x) (rb:VR c h b y) (hv:inK a b G):∃ m t,x = .str (tx m) t /\ ((∃ l v1 ss,y = .ref l /\ h.IsList l (List.toArray v1) /\ StrsAre v1 (List.map tx ss) /\ G (ss.contains m)) \/ ∃ d ss,y = .ref d /\ SetAt c.w h d ss /\ G (ss.contains m)):=by
 obtain ⟨m,rfl,hv⟩:=str1_inv hv
 obtain ⟨t,rfl,_⟩:=ra.str_inv
 refine ⟨m,t,rfl,?_⟩
 cases b with
 | list l =>
  obtain ⟨ss,e,hp⟩:=hv.ex
  obtain ⟨l1,v1,rfl,n1,i1,k1,r1⟩:=rb.list_inv
  exact .inl ⟨_,_,ss,rfl,i1,strsAre r1 e,hp⟩
 | set ss=>cases rb; exact .inr ⟨_,ss,rfl,by assumption,hv⟩
 | _=>exact hv.elim
theorem p_cmp {op:CmpOp} {a b:V} {x y:Value} {G:Bool->Prop} {Q:PR} (S:Sit c A s sf) (ra:VR c s.heap a x) (rb:VR c s.heap b y) (hv:wCmp op a b G)
 (h:∀ v,G v->∀ t,(c.pos = true->0 < t)->Q (.bool v) { s with toks:=t }):wpAny (MD c) A (compareOp op x y) Q E s:=by
 have h0:∀ v,G v->Q (.bool v) s:=fun v hp=>h v hp s.toks S.tk
 cases op with
 | Eq =>
  rcases eq2_inv ra rb hv with ⟨m,n,t,u,rfl,rfl,hp⟩ | ⟨m,n,t,u,rfl,rfl,hp⟩
  ·exact eq_int (by rw [show (m == n) = decide (m = n) from rfl]; exact h0 _ hp)
  ·exact eq_str (by rw [tx_beq]; exact h0 _ hp)
 | NotEq =>
  rcases eq2_inv (G:=fun r=>G (!r)) ra rb hv with ⟨m,n,t,u,rfl,rfl,hp⟩ | ⟨m,n,t,u,rfl,rfl,hp⟩
  ·exact ne_int (h0 _ hp)
  ·exact ne_str (by rw [bne,tx_beq]; exact h0 _ hp)
 | Lt=>obtain ⟨m,n,t,u,rfl,rfl,hp⟩:=int2_inv ra rb hv; exact lt_int (h0 _ hp)
 | LtE=>obtain ⟨m,n,t,u,rfl,rfl,hp⟩:=int2_inv ra rb hv; exact le_int (h0 _ hp)
 | Gt=>obtain ⟨m,n,t,u,rfl,rfl,hp⟩:=int2_inv ra rb hv; exact gt_int (h0 _ hp)
 | GtE=>obtain ⟨m,n,t,u,rfl,rfl,hp⟩:=int2_inv ra rb hv; exact ge_int (h0 _ hp)
 | In =>
  obtain ⟨m,t,rfl,⟨l,v1,ss,rfl,i1,r1,hp⟩ | ⟨d,ss,rfl,⟨n,hs,_⟩,hp⟩⟩:=inK_inv ra rb hv
  ·exact in_list_strs i1 r1 (by rw [any_tx]; exact h0 _ hp)
  ·exact wpAny_inSet_of (k:=tx _) (by simp [PySem.strKind,Value.isStrOf]) rfl hs (h _ hp _ fun _=>Nat.succ_pos _)
 | NotIn =>
  obtain ⟨m,t,rfl,⟨l,v1,ss,rfl,i1,r1,hp⟩ | ⟨d,ss,rfl,⟨n,hs,_⟩,hp⟩⟩:=inK_inv (G:=fun r=>G (!r)) ra rb hv
  ·exact notin_list_strs i1 r1 (by rw [any_tx]; exact h0 _ hp)
  ·exact wpAny_notInSet_of (k:=tx _) (by simp [PySem.strKind,Value.isStrOf]) rfl hs (h _ hp _ fun _=>Nat.succ_pos _)
 | Is =>
  cases b with
  | none =>
   cases a with
   | none=>cases ra; cases rb; exact wpAny_is_plain rfl (h0 _ hv)
   | str m=>obtain ⟨t,rfl,_⟩:=ra.str_inv; cases rb; exact wpAny_is_plain rfl (h0 _ hv)
   | _=>exact hv.elim
  | _=>exact hv.elim
 | _=>exact hv.elim
theorem dictGet_some {k:T} {v:V} {h:Heap}:∀ {ks:List T} {xs:List V} {vals:List Value},VRs c h xs vals->dictGet ks xs k = some v->∃ y,valueAt ((ks.map tx).zip vals) (tx k) = some y /\ VR c h v y
 | [],_,_,_,e=>nomatch e
 | k' :: ks,xs,_,r,e=>by
  cases xs with
  | nil=>exact nomatch e
  | cons x xs =>
   obtain ⟨y,ys,rfl,a,b⟩:=r.cons_inv
   have e:(if k' = k then some x else dictGet ks xs k) = some v:=e
   unfold valueAt
   simp only [List.map_cons,List.zip_cons_cons,List.find?_cons]
   by_cases q:k' = k
   ·rw [if_pos q] at e
    cases e
    subst q
    exact ⟨_,by simp,a⟩
   ·rw [if_neg q] at e
    have:(decide (tx k' = tx k)) = false:=decide_eq_false fun z=>q (tx_inj z)
    simp only [this]
    exact dictGet_some b e
theorem p_str_at {m:T} {i:Int} {ch:Nat} {t u:Tok} {Q:PR} (hl:m.length <= lim) (e:pyAt m i = some ch) (h:Nxt c s (.str [ch]) Q):wpAny (MD c) A (getItem (.str (tx m) t) (.int i u)) Q E s:=by
 have big:(lim:Int) < 2 ^ 63:=by decide
 have hi:(decide (i < -2 ^ 63) || decide (i >= 2 ^ 63)) = false:=by
  unfold pyAt at e
  rw [Bool.or_eq_false_iff,decide_eq_false_iff_not,decide_eq_false_iff_not]
  split at e
  ·split at e
   ·lia
   ·cases e
  ·have:=(List.getElem?_eq_some_iff.mp e).1
   lia
 exact P.getItem_str hi (by rw [tx_at]; exact e) (h.val (.str [ch] _ (Nat.le_trans (Nat.le_of_eq rfl) (by decide:1 <= lim))) _)
theorem p_list_at {m:List V} {i:Int} {v:V} {x:Value} {u:Tok} {Q:PR} (S:Sit c A s sf) (ra:VR c s.heap (.list m) x) (e:pyAt m i = some v) (h:Nxt c s v Q):wpAny (MD c) A (getItem x (.int i u)) Q E s:=by
 obtain ⟨l1,v1,rfl,n1,i1,k1,r1⟩:=ra.list_inv
 have big:(lim:Int) < 2 ^ 63:=by decide
 have hlen:=r1.len
 unfold pyAt at e
 split at e
 ·split at e
  ·rename_i q1 q2
   obtain ⟨w,e,r⟩:=r1.get e
   refine wpAny_getItem_list_neg i1 q1 (by simp; lia) (by lia) ?_ (h.here r S)
   simp only [List.size_toArray,hlen,List.getElem?_toArray]; exact e
  ·cases e
 ·rename_i q1
  have:=(List.getElem?_eq_some_iff.mp e).1
  obtain ⟨w,e,r⟩:=r1.get e
  exact wpAny_getItem_list i1 (by lia) (by lia) (by simpa using e) (h.here r S)
theorem p_idx {a b:V} {x y:Value} {G:V->Prop} {Q:PR} (S:Sit c A s sf) (ra:VR c s.heap a x) (rb:VR c s.heap b y) (hv:wIdx a b G) (h:∀ v,G v->Nxt c s v Q):SubscriptOn (MD c) A x y Q E s:=by
 cases a with
 | str m =>
  obtain ⟨i,rfl,⟨ch,e,hp⟩⟩:=int1_inv hv
  obtain ⟨t,rfl,hl⟩:=ra.str_inv
  obtain ⟨u,rfl⟩:=rb.int_inv
  exact ⟨_,_,PySem.F.slot_str_getitem.lookup,typeIs_str _ _ _,p_str_at hl e (h _ hp)⟩
 | list m =>
  obtain ⟨i,rfl,⟨v,e,hp⟩⟩:=int1_inv hv
  obtain ⟨u,rfl⟩:=rb.int_inv
  have g:=p_list_at (E:=E) (u:=u) S ra e (h _ hp)
  obtain ⟨l1,v1,rfl,n1,⟨o,ho,hc,_⟩,k1,r1⟩:=ra.list_inv
  exact ⟨_,_,PySem.F.slot_list_getitem.lookup,⟨o,ho,hc⟩,g⟩
 | dict ks vs =>
  obtain ⟨k,rfl,⟨v,e,hp⟩⟩:=str1_inv hv
  obtain ⟨d,vals,rfl,n1,hd,hl,hr⟩:=ra.dict_inv
  obtain ⟨t,rfl,_⟩:=rb.str_inv
  obtain ⟨y,e,r⟩:=dictGet_some hr e
  exact ⟨_,_,PySem.F.slot_dict_getitem.lookup,hd.1.typeIs,wpAny_getItem_of (k:=tx _) (by simp [PySem.strKind,Value.isStrOf]) hd.1.mapOf e ((h _ hp).val r _)⟩
 | _=>exact hv.elim
theorem p_len {a:V} {x:Value} {G:V->Prop} {Q:PR} (S:Sit c A s sf) (ra:VR c s.heap a x) (hv:wLen a G) (h:∀ v,G v->Nxt c s v Q):wpAny (MD c) A (call (.builtin "len") [x]) Q E s:=by
 have big:lim < 2 ^ 63:=by decide
 cases a with
 | str m =>
  obtain ⟨t,rfl,hl⟩:=ra.str_inv
  exact len_str (by rw [tx_len]; lia) (by rw [tx_len]; exact (h _ hv).val (.int _ _) _)
 | list m =>
  obtain ⟨l1,v1,rfl,n1,i1,k1,r1⟩:=ra.list_inv
  have e:=r1.len
  refine call_len_list i1 (by simp; lia) ?_
  rw [show ((v1.toArray.size:Nat):Int) = (m.length:Int) by simp [e]]
  exact (h _ hv).val (.int _ _) _
 | _=>exact hv.elim
theorem p_ord {a:V} {x:Value} {G:V->Prop} {Q:PR} (S:Sit c A s sf) (ra:VR c s.heap a x) (hv:wOrd a G) (h:∀ v,G v->Nxt c s v Q):wpAny (MD c) A (call (.builtin "ord") [x]) Q E s:=by
 obtain ⟨m,rfl,hv⟩:=str1_inv hv
 obtain ⟨t,rfl,hl⟩:=ra.str_inv
 match m,hv with
 | [ch],hv=>exact P.ord_of_char ((h _ hv).val (.int _ _) _)
theorem p_min (hp:c.pos = false) {a b:V} {x y:Value} {G:V->Prop} {Q:PR} (S:Sit c A s sf) (ra:VR c s.heap a x) (rb:VR c s.heap b y) (hv:int2 a b fun a b=>G (.int (if b < a then b else a))) (h:∀ v,G v->Nxt c s v Q):wpAny (MD c) A (call (.builtin "min") [x,y]) Q E s:=by
 obtain ⟨m,n,t,u,rfl,rfl,hv⟩:=int2_inv ra rb hv
 refine min_two_ints S.hd fun h' tk k=>?_
 refine h _ hv _ _ _ (Step.ofKeeps k) ?_ (fun z=>by rw [hp] at z; cases z)
 split <;> exact .int _ _
theorem strs_vrs {h:Heap}:∀ (ks:List T) (vals:List Value),vals.length = ks.length->(∀ (j:Nat) (v:Value),vals[j]? = some v->∃ (t:Tok) (k:T),ks[j]? = some k /\ v = Value.str (tx k) t /\ k.length <= lim)->VRs c h (ks.map V.str) vals
 | [],vals,hl,_=>by rw [List.length_eq_zero_iff.mp hl]; exact .nil
 | k :: ks,vals,hl,hv=>by
  cases vals with
  | nil=>cases hl
  | cons v vs =>
   obtain ⟨t,k',e,rfl,hk⟩:=hv 0 v rfl
   cases e
   exact .cons (.str _ _ hk) (strs_vrs ks vs (Nat.succ.inj hl) fun j u hu=>hv (j + 1) u hu)
theorem p_listOf (hp:c.pos = false) {ks:List T} {xs:List V} {x:Value} {Q:PR} (S:Sit c A s sf) (ra:VR c s.heap (.dict ks xs) x) (h:Nxt c s (.list (ks.map .str)) Q):wpAny (MD c) A (call (.type "list") [x]) Q E s:=by
 obtain ⟨a,vals,rfl,hm,hd,hl,hr⟩:=ra.dict_inv
 obtain ⟨⟨o,es,ep,hd1⟩,hd2⟩:=hd
 have hat:s.heap.DictAt (PySem.strKind PG c.w) a ((ks.map tx).zip vals) ep:=⟨o,es,hd1⟩
 have hz:((ks.map tx).zip vals).length = ks.length:=by simp [hd2]
 refine kdl_call (kdl_dict (by simpa using hl.2)) S.hd hat (by rw [hz]; have:=hl.1.1; have:=lim_line; lia) fun h' tk acc' c' k1 k2 k3=>?_
 refine h _ _ _ (Step.ofKeeps k1) (.list S.fresh (vals:=acc'.toList) ⟨_,k2,rfl,c',by simp⟩ (by simpa using hl.1.1) ?_) (fun z=>by rw [hp] at z; cases z)
 rw [hz] at k3
 have k4:acc'.toList.length = ks.length:=by simpa using k3.1
 have k5:∀ (j:Nat) (v:Value),acc'.toList[j]? = some v->∃ (t:Tok) (k:T),ks[j]? = some k /\ v = Value.str (tx k) t /\ k.length <= lim:=by
  intro j v e
  obtain ⟨k,x,e1,e2⟩:=k3.2 j v (by simpa using e)
  obtain ⟨t,rfl⟩:=Value.isStrOf_shape e2
  have:((ks.map tx)[j]?) = some k:=by
   have:=List.getElem?_zip_eq_some.mp e1
   exact this.1
  rw [List.getElem?_map,Option.map_eq_some_iff] at this
  obtain ⟨k',e3,rfl⟩:=this
  exact ⟨t,k',e3,rfl,hl.1.2 _ (List.mem_of_getElem? e3)⟩
 exact strs_vrs ks _ k4 k5
end
noncomputable def fnm:FId->Str
 | .vowels=>"_law_vowels" | .letters=>"_law_letters" | .parts=>"_law_parts" | .nouns=>"_law_nouns" | .verbs=>"_law_verbs" | .last=>"_law_last" | .end_=>"_law_end" | .cut=>"_law_cut" | .less=>"_law_less" | .behind=>"_law_behind" | .marked=>"_law_marked" | .first=>"_law_first" | .or_=>"_law_or" | .adverb=>"_law_adverb" | .noun=>"_law_noun" | .verb=>"_law_verb" | .rest=>"_law_rest" | .plain=>"_law_plain" | .stem=>"_law_stem" | .word=>"_law_word"
noncomputable def mnm:MId->Str
 | .in_grouping=>"in_grouping" | .go_in_grouping=>"go_in_grouping" | .in_grouping_b=>"in_grouping_b" | .go_out_grouping=>"go_out_grouping" | .out_grouping_b=>"out_grouping_b" | .eq_s=>"eq_s" | .eq_s_b=>"eq_s_b" | .find_among=>"find_among" | .find_among_b=>"find_among_b" | .replace_s=>"replace_s" | .slice_from=>"slice_from" | .slice_del=>"slice_del" | .set_current=>"set_current" | .get_current=>"get_current" | .stemWord=>"stemWord" | .elisions=>"r_elisions" | .prelude=>"r_prelude" | .mark_regions=>"r_mark_regions" | .postlude=>"r_postlude" | .rV=>"r_RV" | .r1=>"r_R1" | .r2=>"r_R2" | .standard=>"r_standard_suffix" | .i_verb=>"r_i_verb_suffix" | .verb=>"r_verb_suffix" | .residual=>"r_residual_suffix" | .un_double=>"r_un_double" | .un_accent=>"r_un_accent" | .stem_=>"_stem"
noncomputable def tnm:Tab->Str
 | .gv=>"g_v" | .oux=>"g_oux_ending" | .eli=>"g_elision_char" | .kws=>"g_keep_with_s" | .a0=>"a_0" | .a1=>"a_1" | .a2=>"a_2" | .a3=>"a_3" | .a4=>"a_4" | .a5=>"a_5" | .a6=>"a_6" | .a7=>"a_7" | .a8=>"a_8" | .a9=>"a_9"
noncomputable def lnm:Lab->Str
 | .l0=>"lab0" | .l1=>"lab1" | .l2=>"lab2" | .l3=>"lab3"
noncomputable def opt {α:Type} (o:Option α) (f:α->Bool):Bool:=match o with
 | some a=>f a
 | none=>false
theorem opt_inv {α:Type} {o:Option α} {f:α->Bool} (h:opt o f = true):∃ a,o = some a /\ f a = true:=by
 cases o with
 | some a=>exact ⟨a,rfl,h⟩
 | none=>cases h
theorem and_inv {a b:Bool} (h:(a && b) = true):a = true /\ b = true:=Bool.and_eq_true_iff.mp h
theorem not_inv {a:Bool} (h:(!a) = true):a = false:=by cases a <;> first | rfl | cases h
theorem nz {α:Type} {x:α} {p:Prop} (h:none = some x):p:=nomatch h
noncomputable def vConst (e:EX):Option (Const):=Expr.casesOn (motive_1:=fun _=>Option (Const)) e (fun _ _ _=>none) (fun _ _ _=>none) (fun _ _ _ _=>none) (fun _ _ _=>none) (fun _ _ _ _=>none) (fun _ _ _ _=>none) (fun _ _ _=>none) (fun _ _ _=>none) (fun _ _ _ _=>none) (fun _ _ _ _=>none) (fun _ _ _ _ _=>none) (fun _ _ _ _=>none) (fun _ _=>none) (fun _ _=>none) (fun _ _=>none) (fun _ _ _ _=>none) (fun _ _ _ _=>none) (fun _ _ _ _=>none) (fun _ _=>none) (fun a d p=>some a) (fun _ _ _=>none) (fun _ _ _=>none) (fun _ _=>none) (fun _ _=>none) (fun _ _=>none) (fun _ _ _=>none) (fun _ _ _ _=>none)
theorem vConst_ok {e:EX} {x:Const} {G:Prop} (h:vConst e = some x) (k:∀ d p,(e = .Constant x d p)->G):G:=Expr.casesOn (motive_1:=fun t=>e = t->vConst t = some x->G) e (fun _ _ _ _=>nz) (fun _ _ _ _=>nz) (fun _ _ _ _ _=>nz) (fun _ _ _ _=>nz) (fun _ _ _ _ _=>nz) (fun _ _ _ _ _=>nz) (fun _ _ _ _=>nz) (fun _ _ _ _=>nz) (fun _ _ _ _ _=>nz) (fun _ _ _ _ _=>nz) (fun _ _ _ _ _ _=>nz) (fun _ _ _ _ _=>nz) (fun _ _ _=>nz) (fun _ _ _=>nz) (fun _ _ _=>nz) (fun _ _ _ _ _=>nz) (fun _ _ _ _ _=>nz) (fun _ _ _ _ _=>nz) (fun _ _ _=>nz) (fun a d p he h=>k d p (by rw [<- Option.some.inj h]; exact he)) (fun _ _ _ _=>nz) (fun _ _ _ _=>nz) (fun _ _ _=>nz) (fun _ _ _=>nz) (fun _ _ _=>nz) (fun _ _ _ _=>nz) (fun _ _ _ _ _=>nz) rfl h
noncomputable def vName (e:EX):Option (Str):=Expr.casesOn (motive_1:=fun _=>Option (Str)) e (fun _ _ _=>none) (fun _ _ _=>none) (fun _ _ _ _=>none) (fun _ _ _=>none) (fun _ _ _ _=>none) (fun _ _ _ _=>none) (fun _ _ _=>none) (fun _ _ _=>none) (fun _ _ _ _=>none) (fun _ _ _ _=>none) (fun _ _ _ _ _=>none) (fun _ _ _ _=>none) (fun _ _=>none) (fun _ _=>none) (fun _ _=>none) (fun _ _ _ _=>none) (fun _ _ _ _=>none) (fun _ _ _ _=>none) (fun _ _=>none) (fun _ _ _=>none) (fun _ _ _=>none) (fun _ _ _=>none) (fun _ _=>none) (fun a p=>some a) (fun _ _=>none) (fun _ _ _=>none) (fun _ _ _ _=>none)
theorem vName_ok {e:EX} {x:Str} {G:Prop} (h:vName e = some x) (k:∀ p,(e = .Name x p)->G):G:=Expr.casesOn (motive_1:=fun t=>e = t->vName t = some x->G) e (fun _ _ _ _=>nz) (fun _ _ _ _=>nz) (fun _ _ _ _ _=>nz) (fun _ _ _ _=>nz) (fun _ _ _ _ _=>nz) (fun _ _ _ _ _=>nz) (fun _ _ _ _=>nz) (fun _ _ _ _=>nz) (fun _ _ _ _ _=>nz) (fun _ _ _ _ _=>nz) (fun _ _ _ _ _ _=>nz) (fun _ _ _ _ _=>nz) (fun _ _ _=>nz) (fun _ _ _=>nz) (fun _ _ _=>nz) (fun _ _ _ _ _=>nz) (fun _ _ _ _ _=>nz) (fun _ _ _ _ _=>nz) (fun _ _ _=>nz) (fun _ _ _ _=>nz) (fun _ _ _ _=>nz) (fun _ _ _ _=>nz) (fun _ _ _=>nz) (fun a p he h=>k p (by rw [<- Option.some.inj h]; exact he)) (fun _ _ _=>nz) (fun _ _ _ _=>nz) (fun _ _ _ _ _=>nz) rfl h
noncomputable def vAttr (e:EX):Option (EX × Str × Pos):=Expr.casesOn (motive_1:=fun _=>Option (EX × Str × Pos)) e (fun _ _ _=>none) (fun _ _ _=>none) (fun _ _ _ _=>none) (fun _ _ _=>none) (fun _ _ _ _=>none) (fun _ _ _ _=>none) (fun _ _ _=>none) (fun _ _ _=>none) (fun _ _ _ _=>none) (fun _ _ _ _=>none) (fun _ _ _ _ _=>none) (fun _ _ _ _=>none) (fun _ _=>none) (fun _ _=>none) (fun _ _=>none) (fun _ _ _ _=>none) (fun _ _ _ _=>none) (fun _ _ _ _=>none) (fun _ _=>none) (fun _ _ _=>none) (fun a b p=>some (a,b,p)) (fun _ _ _=>none) (fun _ _=>none) (fun _ _=>none) (fun _ _=>none) (fun _ _ _=>none) (fun _ _ _ _=>none)
theorem vAttr_ok {e:EX} {x:EX × Str × Pos} {G:Prop} (h:vAttr e = some x) (k:(e = .Attribute x.1 x.2.1 x.2.2)->G):G:=Expr.casesOn (motive_1:=fun t=>e = t->vAttr t = some x->G) e (fun _ _ _ _=>nz) (fun _ _ _ _=>nz) (fun _ _ _ _ _=>nz) (fun _ _ _ _=>nz) (fun _ _ _ _ _=>nz) (fun _ _ _ _ _=>nz) (fun _ _ _ _=>nz) (fun _ _ _ _=>nz) (fun _ _ _ _ _=>nz) (fun _ _ _ _ _=>nz) (fun _ _ _ _ _ _=>nz) (fun _ _ _ _ _=>nz) (fun _ _ _=>nz) (fun _ _ _=>nz) (fun _ _ _=>nz) (fun _ _ _ _ _=>nz) (fun _ _ _ _ _=>nz) (fun _ _ _ _ _=>nz) (fun _ _ _=>nz) (fun _ _ _ _=>nz) (fun a b p he h=>k  (by rw [<- Option.some.inj h]; exact he)) (fun _ _ _ _=>nz) (fun _ _ _=>nz) (fun _ _ _=>nz) (fun _ _ _=>nz) (fun _ _ _ _=>nz) (fun _ _ _ _ _=>nz) rfl h
noncomputable def vBin (e:EX):Option (EX × Operator × EX):=Expr.casesOn (motive_1:=fun _=>Option (EX × Operator × EX)) e (fun _ _ _=>none) (fun _ _ _=>none) (fun a o b p=>some (a,o,b)) (fun _ _ _=>none) (fun _ _ _ _=>none) (fun _ _ _ _=>none) (fun _ _ _=>none) (fun _ _ _=>none) (fun _ _ _ _=>none) (fun _ _ _ _=>none) (fun _ _ _ _ _=>none) (fun _ _ _ _=>none) (fun _ _=>none) (fun _ _=>none) (fun _ _=>none) (fun _ _ _ _=>none) (fun _ _ _ _=>none) (fun _ _ _ _=>none) (fun _ _=>none) (fun _ _ _=>none) (fun _ _ _=>none) (fun _ _ _=>none) (fun _ _=>none) (fun _ _=>none) (fun _ _=>none) (fun _ _ _=>none) (fun _ _ _ _=>none)
theorem vBin_ok {e:EX} {x:EX × Operator × EX} {G:Prop} (h:vBin e = some x) (k:∀ p,(e = .BinOp x.1 x.2.1 x.2.2 p)->G):G:=Expr.casesOn (motive_1:=fun t=>e = t->vBin t = some x->G) e (fun _ _ _ _=>nz) (fun _ _ _ _=>nz) (fun a o b p he h=>k p (by rw [<- Option.some.inj h]; exact he)) (fun _ _ _ _=>nz) (fun _ _ _ _ _=>nz) (fun _ _ _ _ _=>nz) (fun _ _ _ _=>nz) (fun _ _ _ _=>nz) (fun _ _ _ _ _=>nz) (fun _ _ _ _ _=>nz) (fun _ _ _ _ _ _=>nz) (fun _ _ _ _ _=>nz) (fun _ _ _=>nz) (fun _ _ _=>nz) (fun _ _ _=>nz) (fun _ _ _ _ _=>nz) (fun _ _ _ _ _=>nz) (fun _ _ _ _ _=>nz) (fun _ _ _=>nz) (fun _ _ _ _=>nz) (fun _ _ _ _=>nz) (fun _ _ _ _=>nz) (fun _ _ _=>nz) (fun _ _ _=>nz) (fun _ _ _=>nz) (fun _ _ _ _=>nz) (fun _ _ _ _ _=>nz) rfl h
noncomputable def vCmp (e:EX):Option (EX × List CmpOp × List EX):=Expr.casesOn (motive_1:=fun _=>Option (EX × List CmpOp × List EX)) e (fun _ _ _=>none) (fun _ _ _=>none) (fun _ _ _ _=>none) (fun _ _ _=>none) (fun _ _ _ _=>none) (fun _ _ _ _=>none) (fun _ _ _=>none) (fun _ _ _=>none) (fun _ _ _ _=>none) (fun _ _ _ _=>none) (fun _ _ _ _ _=>none) (fun _ _ _ _=>none) (fun _ _=>none) (fun _ _=>none) (fun _ _=>none) (fun a o b p=>some (a,o,b)) (fun _ _ _ _=>none) (fun _ _ _ _=>none) (fun _ _=>none) (fun _ _ _=>none) (fun _ _ _=>none) (fun _ _ _=>none) (fun _ _=>none) (fun _ _=>none) (fun _ _=>none) (fun _ _ _=>none) (fun _ _ _ _=>none)
theorem vCmp_ok {e:EX} {x:EX × List CmpOp × List EX} {G:Prop} (h:vCmp e = some x) (k:∀ p,(e = .Compare x.1 x.2.1 x.2.2 p)->G):G:=Expr.casesOn (motive_1:=fun t=>e = t->vCmp t = some x->G) e (fun _ _ _ _=>nz) (fun _ _ _ _=>nz) (fun _ _ _ _ _=>nz) (fun _ _ _ _=>nz) (fun _ _ _ _ _=>nz) (fun _ _ _ _ _=>nz) (fun _ _ _ _=>nz) (fun _ _ _ _=>nz) (fun _ _ _ _ _=>nz) (fun _ _ _ _ _=>nz) (fun _ _ _ _ _ _=>nz) (fun _ _ _ _ _=>nz) (fun _ _ _=>nz) (fun _ _ _=>nz) (fun _ _ _=>nz) (fun a o b p he h=>k p (by rw [<- Option.some.inj h]; exact he)) (fun _ _ _ _ _=>nz) (fun _ _ _ _ _=>nz) (fun _ _ _=>nz) (fun _ _ _ _=>nz) (fun _ _ _ _=>nz) (fun _ _ _ _=>nz) (fun _ _ _=>nz) (fun _ _ _=>nz) (fun _ _ _=>nz) (fun _ _ _ _=>nz) (fun _ _ _ _ _=>nz) rfl h
noncomputable def vBop (e:EX):Option (BoolOp × List EX):=Expr.casesOn (motive_1:=fun _=>Option (BoolOp × List EX)) e (fun o l p=>some (o,l)) (fun _ _ _=>none) (fun _ _ _ _=>none) (fun _ _ _=>none) (fun _ _ _ _=>none) (fun _ _ _ _=>none) (fun _ _ _=>none) (fun _ _ _=>none) (fun _ _ _ _=>none) (fun _ _ _ _=>none) (fun _ _ _ _ _=>none) (fun _ _ _ _=>none) (fun _ _=>none) (fun _ _=>none) (fun _ _=>none) (fun _ _ _ _=>none) (fun _ _ _ _=>none) (fun _ _ _ _=>none) (fun _ _=>none) (fun _ _ _=>none) (fun _ _ _=>none) (fun _ _ _=>none) (fun _ _=>none) (fun _ _=>none) (fun _ _=>none) (fun _ _ _=>none) (fun _ _ _ _=>none)
theorem vBop_ok {e:EX} {x:BoolOp × List EX} {G:Prop} (h:vBop e = some x) (k:∀ p,(e = .BoolOp x.1 x.2 p)->G):G:=Expr.casesOn (motive_1:=fun t=>e = t->vBop t = some x->G) e (fun o l p he h=>k p (by rw [<- Option.some.inj h]; exact he)) (fun _ _ _ _=>nz) (fun _ _ _ _ _=>nz) (fun _ _ _ _=>nz) (fun _ _ _ _ _=>nz) (fun _ _ _ _ _=>nz) (fun _ _ _ _=>nz) (fun _ _ _ _=>nz) (fun _ _ _ _ _=>nz) (fun _ _ _ _ _=>nz) (fun _ _ _ _ _ _=>nz) (fun _ _ _ _ _=>nz) (fun _ _ _=>nz) (fun _ _ _=>nz) (fun _ _ _=>nz) (fun _ _ _ _ _=>nz) (fun _ _ _ _ _=>nz) (fun _ _ _ _ _=>nz) (fun _ _ _=>nz) (fun _ _ _ _=>nz) (fun _ _ _ _=>nz) (fun _ _ _ _=>nz) (fun _ _ _=>nz) (fun _ _ _=>nz) (fun _ _ _=>nz) (fun _ _ _ _=>nz) (fun _ _ _ _ _=>nz) rfl h
noncomputable def vUn (e:EX):Option (UnaryOp × EX):=Expr.casesOn (motive_1:=fun _=>Option (UnaryOp × EX)) e (fun _ _ _=>none) (fun _ _ _=>none) (fun _ _ _ _=>none) (fun o a p=>some (o,a)) (fun _ _ _ _=>none) (fun _ _ _ _=>none) (fun _ _ _=>none) (fun _ _ _=>none) (fun _ _ _ _=>none) (fun _ _ _ _=>none) (fun _ _ _ _ _=>none) (fun _ _ _ _=>none) (fun _ _=>none) (fun _ _=>none) (fun _ _=>none) (fun _ _ _ _=>none) (fun _ _ _ _=>none) (fun _ _ _ _=>none) (fun _ _=>none) (fun _ _ _=>none) (fun _ _ _=>none) (fun _ _ _=>none) (fun _ _=>none) (fun _ _=>none) (fun _ _=>none) (fun _ _ _=>none) (fun _ _ _ _=>none)
theorem vUn_ok {e:EX} {x:UnaryOp × EX} {G:Prop} (h:vUn e = some x) (k:∀ p,(e = .UnaryOp x.1 x.2 p)->G):G:=Expr.casesOn (motive_1:=fun t=>e = t->vUn t = some x->G) e (fun _ _ _ _=>nz) (fun _ _ _ _=>nz) (fun _ _ _ _ _=>nz) (fun o a p he h=>k p (by rw [<- Option.some.inj h]; exact he)) (fun _ _ _ _ _=>nz) (fun _ _ _ _ _=>nz) (fun _ _ _ _=>nz) (fun _ _ _ _=>nz) (fun _ _ _ _ _=>nz) (fun _ _ _ _ _=>nz) (fun _ _ _ _ _ _=>nz) (fun _ _ _ _ _=>nz) (fun _ _ _=>nz) (fun _ _ _=>nz) (fun _ _ _=>nz) (fun _ _ _ _ _=>nz) (fun _ _ _ _ _=>nz) (fun _ _ _ _ _=>nz) (fun _ _ _=>nz) (fun _ _ _ _=>nz) (fun _ _ _ _=>nz) (fun _ _ _ _=>nz) (fun _ _ _=>nz) (fun _ _ _=>nz) (fun _ _ _=>nz) (fun _ _ _ _=>nz) (fun _ _ _ _ _=>nz) rfl h
noncomputable def vIf (e:EX):Option (EX × EX × EX):=Expr.casesOn (motive_1:=fun _=>Option (EX × EX × EX)) e (fun _ _ _=>none) (fun _ _ _=>none) (fun _ _ _ _=>none) (fun _ _ _=>none) (fun _ _ _ _=>none) (fun a b d p=>some (a,b,d)) (fun _ _ _=>none) (fun _ _ _=>none) (fun _ _ _ _=>none) (fun _ _ _ _=>none) (fun _ _ _ _ _=>none) (fun _ _ _ _=>none) (fun _ _=>none) (fun _ _=>none) (fun _ _=>none) (fun _ _ _ _=>none) (fun _ _ _ _=>none) (fun _ _ _ _=>none) (fun _ _=>none) (fun _ _ _=>none) (fun _ _ _=>none) (fun _ _ _=>none) (fun _ _=>none) (fun _ _=>none) (fun _ _=>none) (fun _ _ _=>none) (fun _ _ _ _=>none)
theorem vIf_ok {e:EX} {x:EX × EX × EX} {G:Prop} (h:vIf e = some x) (k:∀ p,(e = .IfExp x.1 x.2.1 x.2.2 p)->G):G:=Expr.casesOn (motive_1:=fun t=>e = t->vIf t = some x->G) e (fun _ _ _ _=>nz) (fun _ _ _ _=>nz) (fun _ _ _ _ _=>nz) (fun _ _ _ _=>nz) (fun _ _ _ _ _=>nz) (fun a b d p he h=>k p (by rw [<- Option.some.inj h]; exact he)) (fun _ _ _ _=>nz) (fun _ _ _ _=>nz) (fun _ _ _ _ _=>nz) (fun _ _ _ _ _=>nz) (fun _ _ _ _ _ _=>nz) (fun _ _ _ _ _=>nz) (fun _ _ _=>nz) (fun _ _ _=>nz) (fun _ _ _=>nz) (fun _ _ _ _ _=>nz) (fun _ _ _ _ _=>nz) (fun _ _ _ _ _=>nz) (fun _ _ _=>nz) (fun _ _ _ _=>nz) (fun _ _ _ _=>nz) (fun _ _ _ _=>nz) (fun _ _ _=>nz) (fun _ _ _=>nz) (fun _ _ _=>nz) (fun _ _ _ _=>nz) (fun _ _ _ _ _=>nz) rfl h
noncomputable def vSub (e:EX):Option (EX × EX):=Expr.casesOn (motive_1:=fun _=>Option (EX × EX)) e (fun _ _ _=>none) (fun _ _ _=>none) (fun _ _ _ _=>none) (fun _ _ _=>none) (fun _ _ _ _=>none) (fun _ _ _ _=>none) (fun _ _ _=>none) (fun _ _ _=>none) (fun _ _ _ _=>none) (fun _ _ _ _=>none) (fun _ _ _ _ _=>none) (fun _ _ _ _=>none) (fun _ _=>none) (fun _ _=>none) (fun _ _=>none) (fun _ _ _ _=>none) (fun _ _ _ _=>none) (fun _ _ _ _=>none) (fun _ _=>none) (fun _ _ _=>none) (fun _ _ _=>none) (fun a b p=>some (a,b)) (fun _ _=>none) (fun _ _=>none) (fun _ _=>none) (fun _ _ _=>none) (fun _ _ _ _=>none)
theorem vSub_ok {e:EX} {x:EX × EX} {G:Prop} (h:vSub e = some x) (k:∀ p,(e = .Subscript x.1 x.2 p)->G):G:=Expr.casesOn (motive_1:=fun t=>e = t->vSub t = some x->G) e (fun _ _ _ _=>nz) (fun _ _ _ _=>nz) (fun _ _ _ _ _=>nz) (fun _ _ _ _=>nz) (fun _ _ _ _ _=>nz) (fun _ _ _ _ _=>nz) (fun _ _ _ _=>nz) (fun _ _ _ _=>nz) (fun _ _ _ _ _=>nz) (fun _ _ _ _ _=>nz) (fun _ _ _ _ _ _=>nz) (fun _ _ _ _ _=>nz) (fun _ _ _=>nz) (fun _ _ _=>nz) (fun _ _ _=>nz) (fun _ _ _ _ _=>nz) (fun _ _ _ _ _=>nz) (fun _ _ _ _ _=>nz) (fun _ _ _=>nz) (fun _ _ _ _=>nz) (fun _ _ _ _=>nz) (fun a b p he h=>k p (by rw [<- Option.some.inj h]; exact he)) (fun _ _ _=>nz) (fun _ _ _=>nz) (fun _ _ _=>nz) (fun _ _ _ _=>nz) (fun _ _ _ _ _=>nz) rfl h
noncomputable def vSlice (e:EX):Option (Option EX × Option EX × Option EX):=Expr.casesOn (motive_1:=fun _=>Option (Option EX × Option EX × Option EX)) e (fun _ _ _=>none) (fun _ _ _=>none) (fun _ _ _ _=>none) (fun _ _ _=>none) (fun _ _ _ _=>none) (fun _ _ _ _=>none) (fun _ _ _=>none) (fun _ _ _=>none) (fun _ _ _ _=>none) (fun _ _ _ _=>none) (fun _ _ _ _ _=>none) (fun _ _ _ _=>none) (fun _ _=>none) (fun _ _=>none) (fun _ _=>none) (fun _ _ _ _=>none) (fun _ _ _ _=>none) (fun _ _ _ _=>none) (fun _ _=>none) (fun _ _ _=>none) (fun _ _ _=>none) (fun _ _ _=>none) (fun _ _=>none) (fun _ _=>none) (fun _ _=>none) (fun _ _ _=>none) (fun a b d p=>some (a,b,d))
theorem vSlice_ok {e:EX} {x:Option EX × Option EX × Option EX} {G:Prop} (h:vSlice e = some x) (k:∀ p,(e = .Slice x.1 x.2.1 x.2.2 p)->G):G:=Expr.casesOn (motive_1:=fun t=>e = t->vSlice t = some x->G) e (fun _ _ _ _=>nz) (fun _ _ _ _=>nz) (fun _ _ _ _ _=>nz) (fun _ _ _ _=>nz) (fun _ _ _ _ _=>nz) (fun _ _ _ _ _=>nz) (fun _ _ _ _=>nz) (fun _ _ _ _=>nz) (fun _ _ _ _ _=>nz) (fun _ _ _ _ _=>nz) (fun _ _ _ _ _ _=>nz) (fun _ _ _ _ _=>nz) (fun _ _ _=>nz) (fun _ _ _=>nz) (fun _ _ _=>nz) (fun _ _ _ _ _=>nz) (fun _ _ _ _ _=>nz) (fun _ _ _ _ _=>nz) (fun _ _ _=>nz) (fun _ _ _ _=>nz) (fun _ _ _ _=>nz) (fun _ _ _ _=>nz) (fun _ _ _=>nz) (fun _ _ _=>nz) (fun _ _ _=>nz) (fun _ _ _ _=>nz) (fun a b d p he h=>k p (by rw [<- Option.some.inj h]; exact he)) rfl h
noncomputable def vCall (e:EX):Option (EX × List EX × List Keyword × Pos):=Expr.casesOn (motive_1:=fun _=>Option (EX × List EX × List Keyword × Pos)) e (fun _ _ _=>none) (fun _ _ _=>none) (fun _ _ _ _=>none) (fun _ _ _=>none) (fun _ _ _ _=>none) (fun _ _ _ _=>none) (fun _ _ _=>none) (fun _ _ _=>none) (fun _ _ _ _=>none) (fun _ _ _ _=>none) (fun _ _ _ _ _=>none) (fun _ _ _ _=>none) (fun _ _=>none) (fun _ _=>none) (fun _ _=>none) (fun _ _ _ _=>none) (fun a l w p=>some (a,l,w,p)) (fun _ _ _ _=>none) (fun _ _=>none) (fun _ _ _=>none) (fun _ _ _=>none) (fun _ _ _=>none) (fun _ _=>none) (fun _ _=>none) (fun _ _=>none) (fun _ _ _=>none) (fun _ _ _ _=>none)
theorem vCall_ok {e:EX} {x:EX × List EX × List Keyword × Pos} {G:Prop} (h:vCall e = some x) (k:(e = .Call x.1 x.2.1 x.2.2.1 x.2.2.2)->G):G:=Expr.casesOn (motive_1:=fun t=>e = t->vCall t = some x->G) e (fun _ _ _ _=>nz) (fun _ _ _ _=>nz) (fun _ _ _ _ _=>nz) (fun _ _ _ _=>nz) (fun _ _ _ _ _=>nz) (fun _ _ _ _ _=>nz) (fun _ _ _ _=>nz) (fun _ _ _ _=>nz) (fun _ _ _ _ _=>nz) (fun _ _ _ _ _=>nz) (fun _ _ _ _ _ _=>nz) (fun _ _ _ _ _=>nz) (fun _ _ _=>nz) (fun _ _ _=>nz) (fun _ _ _=>nz) (fun _ _ _ _ _=>nz) (fun a l w p he h=>k  (by rw [<- Option.some.inj h]; exact he)) (fun _ _ _ _ _=>nz) (fun _ _ _=>nz) (fun _ _ _ _=>nz) (fun _ _ _ _=>nz) (fun _ _ _ _=>nz) (fun _ _ _=>nz) (fun _ _ _=>nz) (fun _ _ _=>nz) (fun _ _ _ _=>nz) (fun _ _ _ _ _=>nz) rfl h
noncomputable def vList (e:EX):Option (List EX):=Expr.casesOn (motive_1:=fun _=>Option (List EX)) e (fun _ _ _=>none) (fun _ _ _=>none) (fun _ _ _ _=>none) (fun _ _ _=>none) (fun _ _ _ _=>none) (fun _ _ _ _=>none) (fun _ _ _=>none) (fun _ _ _=>none) (fun _ _ _ _=>none) (fun _ _ _ _=>none) (fun _ _ _ _ _=>none) (fun _ _ _ _=>none) (fun _ _=>none) (fun _ _=>none) (fun _ _=>none) (fun _ _ _ _=>none) (fun _ _ _ _=>none) (fun _ _ _ _=>none) (fun _ _=>none) (fun _ _ _=>none) (fun _ _ _=>none) (fun _ _ _=>none) (fun _ _=>none) (fun _ _=>none) (fun l p=>some l) (fun _ _ _=>none) (fun _ _ _ _=>none)
theorem vList_ok {e:EX} {x:List EX} {G:Prop} (h:vList e = some x) (k:∀ p,(e = .List x p)->G):G:=Expr.casesOn (motive_1:=fun t=>e = t->vList t = some x->G) e (fun _ _ _ _=>nz) (fun _ _ _ _=>nz) (fun _ _ _ _ _=>nz) (fun _ _ _ _=>nz) (fun _ _ _ _ _=>nz) (fun _ _ _ _ _=>nz) (fun _ _ _ _=>nz) (fun _ _ _ _=>nz) (fun _ _ _ _ _=>nz) (fun _ _ _ _ _=>nz) (fun _ _ _ _ _ _=>nz) (fun _ _ _ _ _=>nz) (fun _ _ _=>nz) (fun _ _ _=>nz) (fun _ _ _=>nz) (fun _ _ _ _ _=>nz) (fun _ _ _ _ _=>nz) (fun _ _ _ _ _=>nz) (fun _ _ _=>nz) (fun _ _ _ _=>nz) (fun _ _ _ _=>nz) (fun _ _ _ _=>nz) (fun _ _ _=>nz) (fun _ _ _=>nz) (fun l p he h=>k p (by rw [<- Option.some.inj h]; exact he)) (fun _ _ _ _=>nz) (fun _ _ _ _ _=>nz) rfl h
noncomputable def vTup (e:EX):Option (List EX × Nat × Pos):=Expr.casesOn (motive_1:=fun _=>Option (List EX × Nat × Pos)) e (fun _ _ _=>none) (fun _ _ _=>none) (fun _ _ _ _=>none) (fun _ _ _=>none) (fun _ _ _ _=>none) (fun _ _ _ _=>none) (fun _ _ _=>none) (fun _ _ _=>none) (fun _ _ _ _=>none) (fun _ _ _ _=>none) (fun _ _ _ _ _=>none) (fun _ _ _ _=>none) (fun _ _=>none) (fun _ _=>none) (fun _ _=>none) (fun _ _ _ _=>none) (fun _ _ _ _=>none) (fun _ _ _ _=>none) (fun _ _=>none) (fun _ _ _=>none) (fun _ _ _=>none) (fun _ _ _=>none) (fun _ _=>none) (fun _ _=>none) (fun _ _=>none) (fun l n p=>some (l,n,p)) (fun _ _ _ _=>none)
theorem vTup_ok {e:EX} {x:List EX × Nat × Pos} {G:Prop} (h:vTup e = some x) (k:(e = .Tuple x.1 x.2.1 x.2.2)->G):G:=Expr.casesOn (motive_1:=fun t=>e = t->vTup t = some x->G) e (fun _ _ _ _=>nz) (fun _ _ _ _=>nz) (fun _ _ _ _ _=>nz) (fun _ _ _ _=>nz) (fun _ _ _ _ _=>nz) (fun _ _ _ _ _=>nz) (fun _ _ _ _=>nz) (fun _ _ _ _=>nz) (fun _ _ _ _ _=>nz) (fun _ _ _ _ _=>nz) (fun _ _ _ _ _ _=>nz) (fun _ _ _ _ _=>nz) (fun _ _ _=>nz) (fun _ _ _=>nz) (fun _ _ _=>nz) (fun _ _ _ _ _=>nz) (fun _ _ _ _ _=>nz) (fun _ _ _ _ _=>nz) (fun _ _ _=>nz) (fun _ _ _ _=>nz) (fun _ _ _ _=>nz) (fun _ _ _ _=>nz) (fun _ _ _=>nz) (fun _ _ _=>nz) (fun _ _ _=>nz) (fun l n p he h=>k  (by rw [<- Option.some.inj h]; exact he)) (fun _ _ _ _ _=>nz) rfl h
noncomputable def vDict (e:EX):Option (List (Option EX) × List EX):=Expr.casesOn (motive_1:=fun _=>Option (List (Option EX) × List EX)) e (fun _ _ _=>none) (fun _ _ _=>none) (fun _ _ _ _=>none) (fun _ _ _=>none) (fun _ _ _ _=>none) (fun _ _ _ _=>none) (fun a l p=>some (a,l)) (fun _ _ _=>none) (fun _ _ _ _=>none) (fun _ _ _ _=>none) (fun _ _ _ _ _=>none) (fun _ _ _ _=>none) (fun _ _=>none) (fun _ _=>none) (fun _ _=>none) (fun _ _ _ _=>none) (fun _ _ _ _=>none) (fun _ _ _ _=>none) (fun _ _=>none) (fun _ _ _=>none) (fun _ _ _=>none) (fun _ _ _=>none) (fun _ _=>none) (fun _ _=>none) (fun _ _=>none) (fun _ _ _=>none) (fun _ _ _ _=>none)
theorem vDict_ok {e:EX} {x:List (Option EX) × List EX} {G:Prop} (h:vDict e = some x) (k:∀ p,(e = .Dict x.1 x.2 p)->G):G:=Expr.casesOn (motive_1:=fun t=>e = t->vDict t = some x->G) e (fun _ _ _ _=>nz) (fun _ _ _ _=>nz) (fun _ _ _ _ _=>nz) (fun _ _ _ _=>nz) (fun _ _ _ _ _=>nz) (fun _ _ _ _ _=>nz) (fun a l p he h=>k p (by rw [<- Option.some.inj h]; exact he)) (fun _ _ _ _=>nz) (fun _ _ _ _ _=>nz) (fun _ _ _ _ _=>nz) (fun _ _ _ _ _ _=>nz) (fun _ _ _ _ _=>nz) (fun _ _ _=>nz) (fun _ _ _=>nz) (fun _ _ _=>nz) (fun _ _ _ _ _=>nz) (fun _ _ _ _ _=>nz) (fun _ _ _ _ _=>nz) (fun _ _ _=>nz) (fun _ _ _ _=>nz) (fun _ _ _ _=>nz) (fun _ _ _ _=>nz) (fun _ _ _=>nz) (fun _ _ _=>nz) (fun _ _ _=>nz) (fun _ _ _ _=>nz) (fun _ _ _ _ _=>nz) rfl h
noncomputable def v1 {α:Type} (l:List α):Option α:=match l with
 | [a]=>some a
 | _=>none
noncomputable def v2 {α:Type} (l:List α):Option (α × α):=match l with
 | [a,b]=>some (a,b)
 | _=>none
noncomputable def vCons {α:Type} (l:List α):Option (α × List α):=match l with
 | a :: r=>some (a,r)
 | []=>none
theorem v1_ok {α:Type} {l:List α} {a:α} (h:v1 l = some a):l = [a]:=match l,h with
 | [b],h=>by rw [Option.some.inj h]
theorem v2_ok {α:Type} {l:List α} {a:α × α} (h:v2 l = some a):l = [a.1,a.2]:=match l,h with
 | [b,d],h=>by rw [<- Option.some.inj h]
theorem vCons_ok {α:Type} {l:List α} {a:α × List α} (h:vCons l = some a):l = a.1 :: a.2:=match l,h with
 | b :: r,h=>by rw [<- Option.some.inj h]
noncomputable def isStar (e:EX):Bool:=Expr.casesOn (motive_1:=fun _=>Bool) e (fun _ _ _=>false) (fun _ _ _=>false) (fun _ _ _ _=>false) (fun _ _ _=>false) (fun _ _ _ _=>false) (fun _ _ _ _=>false) (fun _ _ _=>false) (fun _ _ _=>false) (fun _ _ _ _=>false) (fun _ _ _ _=>false) (fun _ _ _ _ _=>false) (fun _ _ _ _=>false) (fun _ _=>false) (fun _ _=>false) (fun _ _=>false) (fun _ _ _ _=>false) (fun _ _ _ _=>false) (fun _ _ _ _=>false) (fun _ _=>false) (fun _ _ _=>false) (fun _ _ _=>false) (fun _ _ _=>false) (fun _ _=>true) (fun _ _=>false) (fun _ _=>false) (fun _ _ _=>false) (fun _ _ _ _=>false)
noncomputable def isSlice (e:EX):Bool:=Expr.casesOn (motive_1:=fun _=>Bool) e (fun _ _ _=>false) (fun _ _ _=>false) (fun _ _ _ _=>false) (fun _ _ _=>false) (fun _ _ _ _=>false) (fun _ _ _ _=>false) (fun _ _ _=>false) (fun _ _ _=>false) (fun _ _ _ _=>false) (fun _ _ _ _=>false) (fun _ _ _ _ _=>false) (fun _ _ _ _=>false) (fun _ _=>false) (fun _ _=>false) (fun _ _=>false) (fun _ _ _ _=>false) (fun _ _ _ _=>false) (fun _ _ _ _=>false) (fun _ _=>false) (fun _ _ _=>false) (fun _ _ _=>false) (fun _ _ _=>false) (fun _ _=>false) (fun _ _=>false) (fun _ _=>false) (fun _ _ _=>false) (fun _ _ _ _=>true)
noncomputable def goodBase (e:EX):Bool:=Expr.casesOn (motive_1:=fun _=>Bool) e (fun _ _ _=>false) (fun _ _ _=>false) (fun _ _ _ _=>false) (fun _ _ _=>false) (fun _ _ _ _=>false) (fun _ _ _ _=>false) (fun _ _ _=>false) (fun _ _ _=>false) (fun _ _ _ _=>false) (fun _ _ _ _=>false) (fun _ _ _ _ _=>false) (fun _ _ _ _=>false) (fun _ _=>false) (fun _ _=>false) (fun _ _=>false) (fun _ _ _ _=>false) (fun _ _ _ _=>false) (fun _ _ _ _=>false) (fun _ _=>false) (fun _ _ _=>false) (fun _ _ _=>false) (fun _ _ _=>true) (fun _ _=>false) (fun _ _=>true) (fun _ _=>false) (fun _ _ _=>false) (fun _ _ _ _=>false)
noncomputable def isGlob (sc:Scope) (n x:Str):Bool:=x == n && glob sc x
noncomputable def conOk (v:V) (c:Const):Bool:=match v with
 | .none=>match c with
  | .none=>true
  | _=>false
 | .bool b=>match c with
  | .bool d=>b == d
  | _=>false
 | .int b=>match c with
  | .int d=>b == d
  | _=>false
 | .str b=>match c with
  | .str d=>decide (d.cps.toList = b) && decide (b.length <= lim)
  | _=>false
 | _=>false
noncomputable def keysOk:List T->List (Option EX)->Bool
 | [],l=>l.isEmpty
 | k :: ks,l=>opt (vCons l) fun p=>opt p.1 fun e=>opt (vConst e) (conOk (.str k)) && keysOk ks p.2
noncomputable def isNoneCon (e:IE):Bool:=match e with
 | .con .none=>true
 | _=>false
noncomputable def partOk (b:Bool) (f:EX->Bool) (o:Option EX):Bool:=match o with
 | none=>b
 | some e=>f e
noncomputable def arg1 (f:EX->Bool) (l:List EX):Bool:=opt (v1 l) fun e=>!isStar e && f e
noncomputable def arg2 (f g:EX->Bool) (l:List EX):Bool:=opt (v2 l) fun e=>!isStar e.1 && !isStar e.2 && f e.1 && g e.2
noncomputable def bltOk (sc:Scope) (n:Str) (f:List EX->Bool) (e:EX):Bool:=opt (vCall e) fun p=>opt (vName p.1) (isGlob sc n) && p.2.2.1.isEmpty && f p.2.1
noncomputable def metOk (n:Str) (g:EX->Bool) (f:List EX->Bool) (e:EX):Bool :=
 opt (vCall e) fun p=>opt (vAttr p.1) fun o=>o.2.1 == n && g o.1 && o.2.2.endLine == p.2.2.2.line && p.2.2.1.isEmpty && decide (p.2.1.length < 20) && f p.2.1
mutual
noncomputable def chkE (sc:Scope):IE->EX->Bool
 | .con v,e=>opt (vConst e) (conOk v)
 | .loc i,e=>opt (vName e) (isLoc sc i)
 | .fld i f,e=>opt (vAttr e) fun p=>opt (vName p.1) (isLoc sc i) && p.2.1 == fname f
 | .amS i,e=>opt (vAttr e) fun p=>opt (vName p.1) (isLoc sc i) && p.2.1 == ("s":Str)
 | .amI i,e=>opt (vAttr e) fun p=>opt (vName p.1) (isLoc sc i) && p.2.1 == ("substring_i":Str)
 | .amR i,e=>opt (vAttr e) fun p=>opt (vName p.1) (isLoc sc i) && p.2.1 == ("result":Str)
 | .tab t,e=>opt (vAttr e) fun p=>opt (vName p.1) (isGlob sc "FrenchStemmer") && p.2.1 == tnm t
 | .short,e=>opt (vName e) (isGlob sc "_law_short")
 | .bin op a b,e=>opt (vBin e) fun p=>chkE sc a p.1 && p.2.1 == op && chkE sc b p.2.2
 | .cmp op a b,e=>opt (vCmp e) fun p=>chkE sc a p.1 && p.2.1 == [op] && opt (v1 p.2.2) fun r=>chkE sc b r && !behindInMarks op r
 | .cmp2 o1 o2 a b d,e=>opt (vCmp e) fun p=>chkE sc a p.1 && p.2.1 == [o1,o2] && opt (v2 p.2.2) fun r=>chkE sc b r.1 && chkE sc d r.2 && !behindInMarks o2 r.2
 | .bop op es,e=>opt (vBop e) fun p=>p.1 == op && chkEs sc es p.2
 | .not_ a,e=>opt (vUn e) fun p=>p.1 == .Not && chkE sc a p.2
 | .neg a,e=>opt (vUn e) fun p=>p.1 == .USub && chkE sc a p.2
 | .ite d a b,e=>opt (vIf e) fun p=>chkE sc d p.1 && chkE sc a p.2.1 && chkE sc b p.2.2
 | .idx a i,e=>opt (vSub e) fun p=>chkE sc a p.1 && chkE sc i p.2 && !isSlice p.2
 | .slc a lo hi,e=>opt (vSub e) fun p=>chkE sc a p.1 && opt (vSlice p.2) fun r=>r.2.2.isNone && partOk (isNoneCon lo) (chkE sc lo) r.1 && partOk (isNoneCon hi) (chkE sc hi) r.2.1
 | .callF g es,e=>bltOk sc (fnm g) (chkEs sc es) e
 | .callM g i es,e=>metOk (mnm g) (fun o=>opt (vName o) (isLoc sc i)) (chkEs sc es) e
 | .len a,e=>bltOk sc "len" (arg1 (chkE sc a)) e
 | .ord a,e=>bltOk sc "ord" (arg1 (chkE sc a)) e
 | .min a b,e=>bltOk sc "min" (arg2 (chkE sc a) (chkE sc b)) e
 | .listOf a,e=>bltOk sc "list" (arg1 (chkE sc a)) e
 | .sw a b,e=>metOk "startswith" (fun o=>goodBase o && chkE sc a o) (arg1 (chkE sc b)) e
 | .ew a b,e=>metOk "endswith" (fun o=>goodBase o && chkE sc a o) (arg1 (chkE sc b)) e
 | .upper a,e=>metOk "upper" (fun o=>goodBase o && chkE sc a o) (·.isEmpty) e
 | .list es,e=>opt (vList e) fun p=>decide (p.length <= 1000) && chkEs sc es p
 | .tup es,e=>opt (vTup e) fun p=>decide (p.1.length <= 1000) && chkEs sc es p.1
 | .dict ks es,e=>opt (vDict e) fun p=>keysOk ks p.1 && decide (ks.length <= 15) && decide (1 <= ks.length) && decide (ks.length = p.2.length) && decide ks.Nodup && chkEs sc es p.2
noncomputable def chkEs (sc:Scope):IEs->List EX->Bool
 | .nil,es=>es.isEmpty
 | .cons a r,es=>opt (vCons es) fun p=>!isStar p.1 && chkE sc a p.1 && chkEs sc r p.2
end
structure Fx where
 c:Cx
 K:Frag
 C:Tbl
 k:Nat
 A:Around
 sc:Scope
 L:Addr
 q:Str
 fa:Addr
 cd:Value
 cs:List (Str × Addr)
noncomputable def envK (q:Str) (sc:Scope) (L a:Addr) (cd:Value) (cs:List (Str × Addr)):Env:={ envOf q sc L a cd with cells:=cs }
noncomputable def Fx.env (F:Fx):Env:=envK F.q F.sc F.L F.fa F.cd F.cs
abbrev Fx.St (F:Fx) (s:Shared) (m:SV) (l:Lc) (sf:Stem):Prop:=Mine.St F.c F.A F.sc F.L s m l sf
noncomputable abbrev Fx.M (F:Fx):Model:=model PG F.c.w
structure Fx.To (F:Fx) (s:Shared) (m:SV) (l:Lc) (s':Shared) (sf':Stem):Prop where
 st:F.St s' m l sf'
 to:Step F.c.fs F.c.ds s.heap s'.heap
def Callee (c:Cx) (k:Nat) (f:Addr) (run:List V->Stem->QE->Prop):Prop :=
 (∃ o fd,c.H0.get? f = some o /\ o.data = .func fd) /\
 ∀ (envs:List Env) (A:Around) (s:Shared) (sf:Stem) (vs:List V) (args:List Value) (P:QE) (Q:PR) (E:PR),
  Sit { c with envs:=envs } A s sf->A.depth + k <= 900->VRs { c with envs:=envs } s.heap vs args->run vs sf P ->
  (∀ v sf' y s',P v sf'->Sit { c with envs:=envs } A s' sf'->Step (Cx.fs { c with envs:=envs }) c.ds s.heap s'.heap->VR { c with envs:=envs } s'.heap v y->Q y s') ->
  wpAny (MD c) A (call (.ref f) args) Q E s
def slfRun (run:List V->Stem->QE->Prop) (vs:List V) (s:Stem) (P:QE):Prop:=match vs with
 | v :: r=>slfK v (run r s P)
 | []=>False
def Held (c:Cx) (v:V) (a:Value):Prop:=∀ envs,(∀ b o,c.H0.get? b = some o->¬ Cx.mut { c with envs:=envs } b)->VR { c with envs:=envs } c.H0 v a
structure TblOk (c:Cx) (K:Frag) (C:Tbl) (k:Nat):Prop where
 fn:∀ g,∃ f,nsIn K mainGlobals (fnm g) = some (some (.ref f)) /\ Callee c k f (C.fn g)
 mt:∀ g,∃ f,findIn K (.ref c.FC) (mnm g) = some (some (.ref f)) /\ typeIn K (.ref f) = some (.type "function") /\ Callee c k f (slfRun (C.mt g))
 short:∃ a,nsIn K mainGlobals "_law_short" = some (some a) /\ Held c C.short a
 tab:∀ t,∃ a,findCls K (.ref c.FC) (.type "type") (tnm t) = some (.val (.ref a)) /\ Held c (C.tab t) (.ref a)
 cls:nsIn K mainGlobals "FrenchStemmer" = some (some (.ref c.FC)) /\ readsIn K c.FC (.type "type") = true
structure Act (F:Fx):Prop where
 O:KOk F.K F.c.FC F.c.AC
 X:F.K.In F.c.H0
 T:TblOk F.c F.K F.C F.k
 hk:F.sc.kind = .function
 hu:(locsOf F.sc).Nodup
 room:F.A.depth + F.k <= 900
 lists:∀ n,F.c.H0.get? n = none->n ≠ sysModules
 lo:F.C.loose = true->F.c.pos = false
 lo':F.C.loose = false->F.c.pos = true
def Out (F:Fx) (s:Shared) (m:SV) (l:Lc) (P:QE) (Q:PR):Prop:=∀ v sf' y s',P v sf'->F.To s m l s' sf'->VR F.c s'.heap v y->Q y s'
def SndE (F:Fx) (ir:IE):Prop:=∀ e,chkE F.sc ir e = true->∀ m l s sf (P:QE) (Q:PR) (E:PR),F.St s m l sf->wpE F.C ir l sf P->Out F s m l P Q->wpAny F.M F.A (eval e F.env) Q E s
def SndT (F:Fx) (ir:IE):Prop:=∀ e,chkE F.sc ir e = true->∀ m l s sf (P:Bool->Stem->Prop) (Q:Bool->Shared->Prop) (E:PR),F.St s m l sf->wpE F.C ir l sf (fun v s=>asB v fun b=>P b s)->(∀ b sf' s',P b sf'->F.To s m l s' sf'->Q b s')->wpAny F.M F.A (isTrue e F.env (eval e F.env)) Q E s
def SndEs (F:Fx) (ir:IEs):Prop:=∀ es,chkEs F.sc ir es = true->∀ m l s sf (pos:Pos) (P:List V->Stem->Prop) (Q:List Value->Shared->Prop) (E:PR),F.St s m l sf->wpEs F.C ir l sf P ->
 (∀ vs sf' ys s',P vs sf'->vs.length = es.length->F.To s m l s' sf'->VRs F.c s'.heap vs ys->Q ys s')->wpAny F.M F.A (spliced (backTo pos (starEach es F.env))) Q E s
section
variable {F:Fx} {s s' s'':Shared} {m:SV} {l:Lc} {sf sf' sf'':Stem}
theorem Fx.To.refl (S:F.St s m l sf):F.To s m l s sf:=⟨S,Step.refl ..⟩
theorem Fx.To.trans (a:F.To s m l s' sf') (b:F.To s' m l s'' sf''):F.To s m l s'' sf'':=⟨b.st,a.to.trans b.to⟩
theorem Fx.To.up (a:F.To s m l s' sf') {v:V} {y:Value} (r:VR F.c s.heap v y):VR F.c s'.heap v y:=r.step a.to fun _ q=>q
theorem Fx.To.tok (S:F.St s m l sf) (t:Nat) (ht:F.c.pos = true->0 < t):F.To s m l { s with toks:=t } sf:=⟨S.tok t ht,Step.refl ..⟩
theorem Fx.To.keep (S:F.St s m l sf) {h':Heap} {t:Nat} (k:Step F.c.fs [] s.heap h') (ht:F.c.pos = true->0 < t):F.To s m l { s with heap:=h',toks:=t } sf:=⟨S.keep k ht,k.wide fun _ q=>nomatch q⟩
theorem Out.after {P:QE} {Q:PR} (h:Out F s m l P Q) (T:F.To s m l s' sf'):Out F s' m l P Q:=fun v sf2 y s2 hp T2 r=>h v sf2 y s2 hp (T.trans T2) r
theorem Out.nxt {P:QE} {Q:PR} (h:Out F s m l P Q) (T:F.To s m l s' sf'):∀ v,atK P sf' v->Nxt F.c s' v Q:=fun v hv z h' t st r ht=>h _ _ _ _ hv (T.trans (.keep T.st st ht)) r
theorem Out.here {P:QE} {Q:PR} {v:V} {y:Value} (h:Out F s m l P Q) (T:F.To s m l s' sf') (hv:P v sf') (r:VR F.c s'.heap v y):Q y s':=h _ _ _ _ hv T r
end
section
variable {F:Fx}
theorem name_isLoc {sc:Scope} {i:Nat} {o:EX} {G:Prop} (h:opt (vName o) (isLoc sc i) = true) (k:∀ x p,o = .Name x p->isLoc sc i x = true->G):G:=by
 obtain ⟨x,hx,h⟩:=opt_inv h
 exact vName_ok hx fun p he=>k x p he h
theorem name_isGlob {sc:Scope} {n:Str} {o:EX} {G:Prop} (h:opt (vName o) (isGlob sc n) = true) (k:∀ p,o = .Name n p->glob sc n = true->G):G:=by
 obtain ⟨x,hx,h⟩:=opt_inv h
 obtain ⟨h1,h2⟩:=and_inv h
 have e:=beq_iff_eq.mp h1
 subst e
 exact vName_ok hx fun p he=>k p he h2
theorem isTrue_bool {e:EX} {env:Env} {whole:Sem Value} {s:Shared} {A:Around} {Q:Bool->Shared->Prop} {E:PR} {M:Model} (he:isTrue e env whole = (do let v <- whole; standAt e.pos; holding [v] (truthy v)))
 (h:wpAny M A whole (fun y s₁=>∃ b,y = .bool b /\ Q b s₁) E s):wpAny M A (isTrue e env whole) Q E s :=
 wpAny_isTrue_value (wpAny_mono h (fun y s₁ ⟨b,e,h₁⟩=>by subst e; exact wpAny_truthy_bool h₁) fun _ _ x=>x) he
noncomputable def plainT (e:EX):Bool:=Expr.casesOn (motive_1:=fun _=>Bool) e (fun _ _ _=>false) (fun _ _ _=>true) (fun _ _ _ _=>true) (fun _ _ _=>false) (fun _ _ _ _=>true) (fun _ _ _ _=>false) (fun _ _ _=>true) (fun _ _ _=>true) (fun _ _ _ _=>true) (fun _ _ _ _=>true) (fun _ _ _ _ _=>true) (fun _ _ _ _=>true) (fun _ _=>true) (fun _ _=>true) (fun _ _=>true) (fun _ _ _ _=>false) (fun _ _ _ _=>true) (fun _ _ _ _=>true) (fun _ _=>true) (fun _ _ _=>true) (fun _ _ _=>true) (fun _ _ _=>true) (fun _ _=>true) (fun _ _=>true) (fun _ _=>true) (fun _ _ _=>true) (fun _ _ _ _=>true)
theorem plainT_ok {e:EX} (h:plainT e = true) (env:Env) (whole:Sem Value):isTrue e env whole = (do let v <- whole; standAt e.pos; holding [v] (truthy v)):=Expr.casesOn (motive_1:=fun e=>plainT e = true->isTrue e env whole = (do let v <- whole; standAt e.pos; holding [v] (truthy v))) e (fun _ _ _ h=>absurd h fT) (fun _ _ _ _=>rfl) (fun _ _ _ _ _=>rfl) (fun _ _ _ h=>absurd h fT) (fun _ _ _ _ _=>rfl) (fun _ _ _ _ h=>absurd h fT) (fun _ _ _ _=>rfl) (fun _ _ _ _=>rfl) (fun _ _ _ _ _=>rfl) (fun _ _ _ _ _=>rfl) (fun _ _ _ _ _ _=>rfl) (fun _ _ _ _ _=>rfl) (fun _ _ _=>rfl) (fun _ _ _=>rfl) (fun _ _ _=>rfl) (fun _ _ _ _ h=>absurd h fT) (fun _ _ _ _ _=>rfl) (fun _ _ _ _ _=>rfl) (fun _ _ _=>rfl) (fun _ _ _ _=>rfl) (fun _ _ _ _=>rfl) (fun _ _ _ _=>rfl) (fun _ _ _=>rfl) (fun _ _ _=>rfl) (fun _ _ _=>rfl) (fun _ _ _ _=>rfl) (fun _ _ _ _ _=>rfl) h
theorem both {ir:IE} (hp:∀ e,chkE F.sc ir e = true->plainT e = true) (h:SndE F ir):SndE F ir /\ SndT F ir :=
 ⟨h,fun e hc m l s sf P Q E S hw hq=>isTrue_bool (plainT_ok (hp e hc) _ _) (h e hc m l s sf _ _ E S hw fun v sf' y s' hv T r=>by
  obtain ⟨b,rfl,hb⟩:=asB_inv hv
  exact ⟨b,r.bool_inv,hq b sf' s' hb T⟩)⟩
theorem snd_con {v:V}:SndE F (.con v) /\ SndT F (.con v):=by
 refine both (fun e h=>?_) fun e h m l s sf P Q E S hw hq=>?_
 ·obtain ⟨x,hx,h⟩:=opt_inv h
  exact vConst_ok hx fun k p he=>by rw [he]; rfl
 obtain ⟨x,hx,h⟩:=opt_inv h
 refine vConst_ok hx fun k p he=>?_
 subst he
 have no:∀ {G:Prop},false = true->G:=fun h=>absurd h fT
 cases v with
 | none=>cases x with
  | none=>exact wpAny_Constant_none (hq.here (.refl S) hw .none)
  | _=>exact no h
 | bool b=>cases x with
  | bool d=>cases beq_iff_eq.mp h; exact wpAny_Constant_bool (hq.here (.refl S) hw (.bool _))
  | _=>exact no h
 | int b=>cases x with
  | int d=>cases beq_iff_eq.mp h; exact wpAny_Constant_int (hq.here (.tok S _ fun _=>Nat.succ_pos _) hw (.int _ _))
  | _=>exact no h
 | str b=>cases x with
  | str d =>
   obtain ⟨h1,h2⟩:=and_inv h
   have h1:=of_decide_eq_true h1
   have e:d = tx b:=Str.ext' (by rw [<- h1])
   refine wpAny_Constant_str (hq.here (.tok S _ fun _=>Nat.succ_pos _) hw ?_)
   rw [e]
   exact .str _ _ (of_decide_eq_true h2)
  | _=>exact no h
 | _=>exact no h
theorem snd_loc {i:Nat} (X:Act F):SndE F (.loc i) /\ SndT F (.loc i):=by
 refine both (fun e h=>name_isLoc h fun x p he _=>by rw [he]; rfl) fun e h m l s sf P Q E S hw hq=>?_
 refine name_isLoc h fun x p he hi=>?_
 subst he
 obtain ⟨v,e,hp⟩:=wOpt_inv hw
 exact p_loc S X.hk hi e fun y _ r=>hq.here (.refl S) hp r
theorem attr_of {x a:Str} {p pos:Pos} {s:Shared} {E:PR} {Q:PR} {A:Around} {M:Model} {env:Env} (h:wpAny M A (eval (.Name x p) env) (fun o s₁=>wpAny M A (getAttr o a true) Q E s₁) E s):wpAny M A (eval (.Attribute (.Name x p) a pos) env) Q E s:=by
 rw [arm_eval_Attribute]
 exact wpAny_bind (m:=eval (.Name x p) _) (wpAny_mono h (fun o s₁ h=>wpAny_bind (wpAny_standAt (wpAny_bind (wpAny_holding (wpAny_mono h (fun r s₂ h₂=>wpAny_bind (wpAny_pure (wpAny_pure h₂))) fun _ _ x=>x))))) fun _ _ x=>x)
theorem attr_pl {e:EX} {g:EX × Str × Pos->Bool} (h:opt (vAttr e) g = true):plainT e = true:=by
 obtain ⟨p,hp,h⟩:=opt_inv h
 exact vAttr_ok hp fun he=>by rw [he]; rfl
theorem attr_loc {sc:Scope} {i:Nat} {n:Str} {e:EX} {G:Prop} (h:(opt (vAttr e) fun p=>opt (vName p.1) (isLoc sc i) && p.2.1 == n) = true) (k:∀ x p pos,e = .Attribute (.Name x p) n pos->isLoc sc i x = true->G):G:=by
 obtain ⟨⟨o,a,pos⟩,hp,h⟩:=opt_inv h
 obtain ⟨h1,h2⟩:=and_inv h
 refine vAttr_ok hp fun he=>name_isLoc h1 fun x p he1 hi=>k x p pos ?_ hi
 rw [he,show o = _ from he1,show a = n from beq_iff_eq.mp h2]
theorem snd_fld {i:Nat} {f:Fld} (X:Act F):SndE F (.fld i f) /\ SndT F (.fld i f):=by
 refine both (fun e h=>attr_pl h) fun e h m l s sf P Q E S hw hq=>?_
 refine attr_loc h fun x p pos he hi=>?_
 subst he
 obtain ⟨v,e,hp⟩:=wOpt_inv hw
 obtain ⟨rfl,hp⟩:=slfK_inv hp
 obtain ⟨v,ev,hp⟩:=getN_inv hp
 refine attr_of (p_loc S X.hk hi e fun y _ r=>?_)
 cases r with
 | self hx=>exact p_getF X.O X.X S.toSit hx ev fun y r=>hq.here (.tok S _ fun _=>Nat.succ_pos _) hp r.vr
theorem snd_am {i:Nat} {n:Str} {e:EX} (X:Act F) (h:(opt (vAttr e) fun p=>opt (vName p.1) (isLoc F.sc i) && p.2.1 == n) = true) {m:SV} {l:Lc} {s:Shared} {sf:Stem} {Q E:PR} {x:T} {j r:Int} (S:F.St s m l sf)
 (hl:l[i]?.join = some (.amg x j r)) (hn:findIn F.K (.ref F.c.AC) n = some none)
 (hq:∀ (mA:SV) (t1 t2 t3:Tok),mA "s" = some (.str (tx x) t1)->mA "substring_i" = some (.int j t2)->mA "result" = some (.int r t3)->x.length <= lim->∃ v,mA n = some v /\ handedIn v = true /\ Q v { s with toks:=s.toks + 1 }):wpAny F.M F.A (eval e F.env) Q E s:=by
 refine attr_loc h fun x p pos he hi=>?_
 subst he
 refine attr_of (p_loc S X.hk hi hl fun y _ ry=>?_)
 cases ry with
 | amg ha hlen =>
  obtain ⟨d,od,mA,t1,t2,t3,g1,g2,g3,g4,g5,g6⟩:=ha.at_
  obtain ⟨v,e1,e2,e3⟩:=hq mA t1 t2 t3 g4 g5 g6 hlen
  exact p_getA (od:=od) X.O (In.here X.X S.toSit) (S.base _ _ g1) (g3.keeps S.base) hn e1 e2 e3
theorem snd_amS {i:Nat} (X:Act F):SndE F (.amS i) /\ SndT F (.amS i):=by
 refine both (fun e h=>attr_pl h) fun e h m l s sf P Q E S hw hq=>?_
 obtain ⟨v,e,hp⟩:=wOpt_inv hw
 cases v with
 | amg x j r=>exact snd_am X h S e X.O.aS fun mA t1 t2 t3 g1 g2 g3 hl=>⟨_,g1,rfl,hq.here (.tok S _ fun _=>Nat.succ_pos _) hp (.str _ _ hl)⟩
 | _=>exact hp.elim
theorem snd_amI {i:Nat} (X:Act F):SndE F (.amI i) /\ SndT F (.amI i):=by
 refine both (fun e h=>attr_pl h) fun e h m l s sf P Q E S hw hq=>?_
 obtain ⟨v,e,hp⟩:=wOpt_inv hw
 cases v with
 | amg x j r=>exact snd_am X h S e X.O.aI fun mA t1 t2 t3 g1 g2 g3 hl=>⟨_,g2,rfl,hq.here (.tok S _ fun _=>Nat.succ_pos _) hp (.int _ _)⟩
 | _=>exact hp.elim
theorem snd_amR {i:Nat} (X:Act F):SndE F (.amR i) /\ SndT F (.amR i):=by
 refine both (fun e h=>attr_pl h) fun e h m l s sf P Q E S hw hq=>?_
 obtain ⟨v,e,hp⟩:=wOpt_inv hw
 cases v with
 | amg x j r=>exact snd_am X h S e X.O.aR fun mA t1 t2 t3 g1 g2 g3 hl=>⟨_,g3,rfl,hq.here (.tok S _ fun _=>Nat.succ_pos _) hp (.int _ _)⟩
 | _=>exact hp.elim
theorem Held.here {v:V} {a:Value} (h:Held F.c v a) {s:Shared} {m:SV} {l:Lc} {sf:Stem} (S:F.St s m l sf):VR F.c s.heap v a :=
 (h F.c.envs fun _ _ e=>S.toSit.base_mut e).step (fs:=[]) (ds:=[]) (Step.ofKeeps S.base) fun a q=>q.elim (fun z=>nomatch z) fun z=>nomatch z
theorem attr_glob {sc:Scope} {x n:Str} {e:EX} {G:Prop} (h:(opt (vAttr e) fun p=>opt (vName p.1) (isGlob sc x) && p.2.1 == n) = true) (k:∀ p pos,e = .Attribute (.Name x p) n pos->glob sc x = true->G):G:=by
 obtain ⟨⟨o,a,pos⟩,hp,h⟩:=opt_inv h
 obtain ⟨h1,h2⟩:=and_inv h
 refine vAttr_ok hp fun he=>name_isGlob h1 fun p he1 hi=>k p pos ?_ hi
 rw [he,show o = _ from he1,show a = n from beq_iff_eq.mp h2]
theorem snd_tab {t:Tab} (X:Act F):SndE F (.tab t) /\ SndT F (.tab t):=by
 refine both (fun e h=>attr_pl h) fun e h m l s sf P Q E S hw hq=>?_
 refine attr_glob h fun p pos he hg=>?_
 subst he
 obtain ⟨b,e1,r⟩:=X.T.tab t
 have r:=r.here S
 refine attr_of (p_glob (In.here X.X S.toSit) X.hk hg X.T.cls.1 ?_)
 exact cls_value (In.here X.X S.toSit) X.T.cls.2 e1 rfl (hq.here (.tok S _ fun _=>Nat.succ_pos _) hw r)
theorem snd_short (X:Act F):SndE F .short /\ SndT F .short:=by
 refine both (fun e h=>name_isGlob h fun p he _=>by rw [he]; rfl) fun e h m l s sf P Q E S hw hq=>?_
 refine name_isGlob h fun p he hg=>?_
 subst he
 obtain ⟨a,e,r⟩:=X.T.short
 exact p_glob (In.here X.X S.toSit) X.hk hg e (hq.here (.refl S) hw (r.here S))
theorem snd_bin {a b:IE} {op:Operator} (ha:SndE F a) (hb:SndE F b):SndE F (.bin op a b) /\ SndT F (.bin op a b):=by
 refine both (fun e h=>?_) fun e h m l s sf P Q E S hw hq=>?_
 ·obtain ⟨p,hp,h⟩:=opt_inv h
  exact vBin_ok hp fun _ he=>by rw [he]; rfl
 obtain ⟨⟨x,o,y⟩,hp,h⟩:=opt_inv h
 obtain ⟨h,h2⟩:=and_inv h
 obtain ⟨h1,h3⟩:=and_inv h
 cases beq_iff_eq.mp h3
 refine vBin_ok hp fun p he=>?_
 subst he
 refine wpAny_BinOp (ha x h1 m l s sf _ _ E S hw fun xv s1 y1 t1 hw T1 r1=>hb y h2 m l t1 s1 _ _ E T1.st hw fun yv s2 y2 t2 hw T2 r2=>?_)
 exact p_bin T2.st.toSit (T2.up r1) r2 hw (hq.nxt (T1.trans T2))
theorem p_cmpO {op:CmpOp} {a b:V} {x y:Value} {P:Bool->Prop} {Q:PR} {E:PR} {s:Shared} {m:SV} {l:Lc} {sf:Stem} (S:F.St s m l sf) (ra:VR F.c s.heap a x) (rb:VR F.c s.heap b y) (hv:wCmp op a b P)
 (h:∀ v s',P v->F.To s m l s' sf->Q (.bool v) s'):wpAny F.M F.A (compareOp op x y) Q E s:=p_cmp S.toSit ra rb hv fun v hp t ht=>h v _ hp (.tok S t ht)
theorem snd_cmp {a b:IE} {op:CmpOp} (ha:SndE F a) (hb:SndE F b):SndE F (.cmp op a b) /\ SndT F (.cmp op a b):=by
 have sh:∀ {e:EX} {G:Prop},chkE F.sc (.cmp op a b) e = true->(∀ x y p,e = .Compare x [op] [y] p->chkE F.sc a x = true->chkE F.sc b y = true->behindInMarks op y = false->G)->G:=fun {e G} h k=>by
  obtain ⟨⟨x,o,y⟩,hp,h⟩:=opt_inv h
  obtain ⟨h,h2⟩:=and_inv h
  obtain ⟨h1,h3⟩:=and_inv h
  obtain ⟨z,hz,h2⟩:=opt_inv h2
  obtain ⟨h2,h4⟩:=and_inv h2
  exact vCmp_ok hp fun p he=>k x z p (by rw [he,show o = [op] from beq_iff_eq.mp h3,show y = [z] from v1_ok hz]) h1 h2 (not_inv h4)
 refine ⟨fun e h m l s sf P Q E S hw hq=>sh h fun x y p he h1 h2 hm=>?_,fun e h m l s sf P Q E S hw hq=>sh h fun x y p he h1 h2 hm=>?_⟩
 ·subst he
  refine wpAny_Compare1 (ha x h1 m l s sf _ _ E S hw fun xv s1 y1 t1 hw T1 r1=>hb y h2 m l t1 s1 _ _ E T1.st hw fun yv s2 y2 t2 hw T2 r2=>?_) hm
  exact p_cmpO T2.st (T2.up r1) r2 hw fun v s' hv T=>hq.here ((T1.trans T2).trans T) hv (.bool v)
 ·subst he
  refine wpAny_isTrue_Compare1 (ha x h1 m l s sf _ _ E S hw fun xv s1 y1 t1 hw T1 r1=>hb y h2 m l t1 s1 _ _ E T1.st hw fun yv s2 y2 t2 hw T2 r2=>?_) hm
  exact p_cmpO T2.st (T2.up r1) r2 hw fun v s' hv T=>wpAny_truthy_bool (hq v _ _ hv ((T1.trans T2).trans T))
theorem snd_cmp2 {a b d:IE} {op o2:CmpOp} (ha:SndE F a) (hb:SndE F b) (hd:SndE F d):SndE F (.cmp2 op o2 a b d) /\ SndT F (.cmp2 op o2 a b d):=by
 have sh:∀ {e:EX} {G:Prop},chkE F.sc (.cmp2 op o2 a b d) e = true->(∀ x y z p,e = .Compare x [op,o2] [y,z] p->chkE F.sc a x = true->chkE F.sc b y = true->chkE F.sc d z = true->behindInMarks o2 z = false->G)->G:=fun {e G} h k=>by
  obtain ⟨⟨x,o,y⟩,hp,h⟩:=opt_inv h
  obtain ⟨h,h2⟩:=and_inv h
  obtain ⟨h1,h3⟩:=and_inv h
  obtain ⟨z,hz,h2⟩:=opt_inv h2
  obtain ⟨h2,h4⟩:=and_inv h2
  obtain ⟨h2,h5⟩:=and_inv h2
  exact vCmp_ok hp fun p he=>k x z.1 z.2 p (by rw [he,show o = [op,o2] from beq_iff_eq.mp h3,show y = [z.1,z.2] from v2_ok hz]) h1 h2 h5 (not_inv h4)
 refine ⟨fun e h m l s sf P Q E S hw hq=>sh h fun x y z p he h1 h2 h3 hm=>?_,fun e h m l s sf P Q E S hw hq=>sh h fun x y z p he h1 h2 h3 hm=>?_⟩
 ·subst he
  refine Compare_chain (ha x h1 m l s sf _ _ E S hw fun xv s1 y1 t1 hw T1 r1=>?_) (by simpa [lastMarks] using hm)
  refine chain_link (hb y h2 m l t1 s1 _ _ E T1.st hw fun yv s2 y2 t2 hw T2 r2=>?_)
  refine p_cmpO T2.st (T2.up r1) r2 hw fun v s' hv T=>wpAny_truthy_bool ?_
  have T0:=T
  have T:=(T1.trans T2).trans T
  cases v with
  | false=>exact hq.here T (hv.f rfl) (.bool _)
  | true =>
   refine chain_last (hd z h3 m l _ _ _ _ E T.st (hv.t rfl) fun zv s3 y3 t3 hw T3 r3=>?_)
   exact p_cmpO T3.st (T3.up (T0.up r2)) r3 hw fun v s' hv T'=>hq.here ((T.trans T3).trans T') hv (.bool v)
 ·subst he
  refine isTrue_chain (ha x h1 m l s sf _ _ E S hw fun xv s1 y1 t1 hw T1 r1=>?_) (by simpa [lastMarks] using hm)
  refine test_link (hb y h2 m l t1 s1 _ _ E T1.st hw fun yv s2 y2 t2 hw T2 r2=>?_)
  refine p_cmpO T2.st (T2.up r1) r2 hw fun v s' hv T=>wpAny_truthy_bool ?_
  have T0:=T
  have T:=(T1.trans T2).trans T
  cases v with
  | false=>exact hq _ _ _ (hv.f rfl) T
  | true =>
   refine test_last (hd z h3 m l _ _ _ _ E T.st (hv.t rfl) fun zv s3 y3 t3 hw T3 r3=>?_)
   exact p_cmpO T3.st (T3.up (T0.up r2)) r3 hw fun v s' hv T'=>wpAny_truthy_bool (hq _ _ _ hv ((T.trans T3).trans T'))
theorem un_sh {o:UnaryOp} {a:IE} {e:EX} {G:Prop} (h:(opt (vUn e) fun p=>p.1 == o && chkE F.sc a p.2) = true) (k:∀ x p,e = .UnaryOp o x p->chkE F.sc a x = true->G):G:=by
 obtain ⟨⟨x,o⟩,hp,h⟩:=opt_inv h
 obtain ⟨h,h2⟩:=and_inv h
 exact vUn_ok hp fun p he=>k _ p (by rw [he,show x = _ from beq_iff_eq.mp h]) h2
theorem snd_not {a:IE} (ha:SndE F a) (ht:SndT F a):SndE F (.not_ a) /\ SndT F (.not_ a):=by
 refine ⟨fun e h m l s sf P Q E S hw hq=>un_sh h fun x p he h1=>?_,fun e h m l s sf P Q E S hw hq=>un_sh h fun x p he h1=>?_⟩
 ·subst he
  refine wpAny_UnaryOp (ha x h1 m l s sf _ _ E S hw fun xv s1 y1 t1 hw T1 r1=>?_)
  obtain ⟨b,rfl,hb⟩:=asB_inv hw
  cases r1.bool_inv
  exact not_value (wpAny_truthy_bool (hq.here T1 hb (.bool _)))
 ·subst he
  exact wpAny_isTrue_Not (ht x h1 m l s sf (fun b s=>P (!b) s) _ E S hw fun b s1 t1 hb T1=>hq _ _ _ hb T1)
theorem snd_neg {a:IE} (ha:SndE F a):SndE F (.neg a) /\ SndT F (.neg a):=by
 have h1:SndE F (.neg a):=fun e h m l s sf P Q E S hw hq=>un_sh h fun x p he h1=>by
  subst he
  refine wpAny_UnaryOp (ha x h1 m l s sf _ _ E S hw fun xv s1 y1 t1 hw T1 r1=>?_)
  obtain ⟨n,rfl,hn⟩:=int1_inv hw
  obtain ⟨t,rfl⟩:=r1.int_inv
  exact neg_int (hq.here (T1.trans (.tok T1.st _ fun _=>Nat.succ_pos _)) hn (.int _ _))
 exact ⟨h1,fun e h m l s sf P Q E S hw hq=>un_sh h fun x p he _=>by
  refine isTrue_bool (by rw [he]; rfl) (h1 e h m l s sf _ _ E S hw fun v sf' y s' hv T r=>?_)
  obtain ⟨b,rfl,hb⟩:=asB_inv hv
  exact ⟨b,r.bool_inv,hq b sf' s' hb T⟩⟩
theorem if_sh {d a b:IE} {e:EX} {G:Prop} (h:chkE F.sc (.ite d a b) e = true) (k:∀ x y z p,e = .IfExp x y z p->chkE F.sc d x = true->chkE F.sc a y = true->chkE F.sc b z = true->G):G:=by
 obtain ⟨p,hp,h⟩:=opt_inv h
 obtain ⟨h,h2⟩:=and_inv h
 obtain ⟨h,h3⟩:=and_inv h
 exact vIf_ok hp fun q he=>k _ _ _ q he h h3 h2
theorem snd_ite {d a b:IE} (ht:SndT F d) (ha:SndE F a) (hb:SndE F b) (ta:SndT F a) (tb:SndT F b):SndE F (.ite d a b) /\ SndT F (.ite d a b):=by
 refine ⟨fun e h m l s sf P Q E S hw hq=>if_sh h fun x y z p he h1 h2 h3=>?_,fun e h m l s sf P Q E S hw hq=>if_sh h fun x y z p he h1 h2 h3=>?_⟩
 ·subst he
  refine wpAny_IfExp (ht x h1 m l s sf (fun t s=>iteB (wpE F.C a) (wpE F.C b) l s P t) _ E S hw fun v s1 t1 hv T1=>?_)
  cases v with
  | false=>exact hb z h3 m l t1 s1 P Q E T1.st (hv.f rfl) (hq.after T1)
  | true=>exact ha y h2 m l t1 s1 P Q E T1.st (hv.t rfl) (hq.after T1)
 ·subst he
  rw [arm_isTrue_IfExp]
  refine wpAny_bind (ht x h1 m l s sf (fun t s=>iteB (wpE F.C a) (wpE F.C b) l s (fun v s=>asB v fun b=>P b s) t) _ E S hw fun v s1 t1 hv T1=>?_)
  cases v with
  | false=>exact tb z h3 m l t1 s1 P Q E T1.st (hv.f rfl) fun b sf' s' hb T=>hq _ _ _ hb (T1.trans T)
  | true=>exact ta y h2 m l t1 s1 P Q E T1.st (hv.t rfl) fun b sf' s' hb T=>hq _ _ _ hb (T1.trans T)
end
section
variable {F:Fx}
theorem star_cons {e:EX} {r:List EX} {env:Env} (h:isStar e = false):starEach (e :: r) env = (false,eval e env) :: starEach r env:=Expr.casesOn (motive_1:=fun e=>isStar e = false->starEach (e :: r) env = (false,eval e env) :: starEach r env) e (fun _ _ _ _=>rfl) (fun _ _ _ _=>rfl) (fun _ _ _ _ _=>rfl) (fun _ _ _ _=>rfl) (fun _ _ _ _ _=>rfl) (fun _ _ _ _ _=>rfl) (fun _ _ _ _=>rfl) (fun _ _ _ _=>rfl) (fun _ _ _ _ _=>rfl) (fun _ _ _ _ _=>rfl) (fun _ _ _ _ _ _=>rfl) (fun _ _ _ _ _=>rfl) (fun _ _ _=>rfl) (fun _ _ _=>rfl) (fun _ _ _=>rfl) (fun _ _ _ _ _=>rfl) (fun _ _ _ _ _=>rfl) (fun _ _ _ _ _=>rfl) (fun _ _ _=>rfl) (fun _ _ _ _=>rfl) (fun _ _ _ _=>rfl) (fun _ _ _ _=>rfl) (fun _ _ h=>absurd h.symm fT) (fun _ _ _=>rfl) (fun _ _ _=>rfl) (fun _ _ _ _=>rfl) (fun _ _ _ _ _=>rfl) h
theorem nil_ok {α:Type} {l:List α} (h:l.isEmpty = true):l = []:=List.isEmpty_iff.mp h
theorem sndEs_nil:SndEs F .nil:=fun es h m l s sf pos P Q E S hw hq=>by
 cases nil_ok h
 exact spliced_nil (hq _ _ _ _ hw rfl (.refl S) .nil)
theorem cons_sh {a:IE} {r:IEs} {es:List EX} {G:Prop} (h:chkEs F.sc (.cons a r) es = true) (k:∀ x xs,es = x :: xs->isStar x = false->chkE F.sc a x = true->chkEs F.sc r xs = true->G):G:=by
 obtain ⟨⟨x,xs⟩,hp,h⟩:=opt_inv h
 obtain ⟨h,h2⟩:=and_inv h
 obtain ⟨h1,h3⟩:=and_inv h
 exact k x xs (vCons_ok hp) (not_inv h1) h3 h2
theorem sndEs_cons {a:IE} {r:IEs} (ha:SndE F a) (hr:SndEs F r):SndEs F (.cons a r):=fun es h m l s sf pos P Q E S hw hq=>cons_sh h fun x xs he h0 h1 h2=>by
 subst he
 rw [star_cons h0]
 refine spliced_cons (ha x h1 m l s sf _ _ E S hw fun xv s1 y1 t1 hw T1 r1=>?_)
 exact hr xs h2 m l t1 s1 pos _ _ E T1.st hw fun vs s2 ys t2 hw hn T2 r2=>hq _ _ _ _ hw (congrArg (· + 1) hn) (T1.trans T2) (.cons (T2.up r1) r2)
theorem star_any {env:Env} {pos:Pos}:∀ {ir:IEs} {es:List EX},chkEs F.sc ir es = true->(backTo pos (starEach es env)).any (·.1) = false
 | .nil,es,h=>by cases nil_ok h; rfl
 | .cons a r,es,h=>cons_sh h fun x xs he h0 _ h2=>by
  subst he
  rw [star_cons h0]
  exact star_any h2
theorem star_all {env:Env} {pos:Pos} {ir:IEs} {es:List EX} (h:chkEs F.sc ir es = true):(backTo pos (starEach es env)).all (fun x=>!x.1) = true:=by
 have:=star_any (F:=F) (env:=env) (pos:=pos) h
 rw [List.any_eq_false] at this
 rw [List.all_eq_true]
 intro z hz
 have:=this z hz
 simpa using this
theorem evalArgs_all {ir:IEs} {es:List EX} {env:Env} {pos:Pos} {f:Value} {A:Around} {s:Shared} {Q:Args->Shared->Prop} {E:PR} {M:Model} (h:chkEs F.sc ir es = true)
 (hq:wpAny M A (spliced (backTo pos (starEach es env))) (fun vs s'=>Q ⟨vs,[]⟩ s') E s):wpAny M A (evalArgs f true (backTo pos (starEach es env)) []) Q E s:=by
 cases ir with
 | nil =>
  cases nil_ok h
  unfold evalArgs
  show wpAny M A (spliced [] >>= _) Q E s
  refine wpAny_bind (wpAny_mono hq (fun vs s' h'=>?_) fun _ _ x=>x)
  refine wpAny_bind (wpAny_pure ?_)
  refine wpAny_holding ?_
  exact wpAny_bind (wpAny_pure (wpAny_bind (wpAny_pure (wpAny_pure h'))))
 | cons a r =>
  refine cons_sh h fun x xs he h0 _ _=>?_
  subst he
  rw [star_cons h0] at hq ⊢
  exact evalArgs_plain hq
theorem callWith_machine {pos:Pos} {f:Value} {first:List Value} {args:List (Bool × Sem Value)} {Q:PR} {A:Around} {s:Shared} {E:PR} {M:Model} (hf:keeperOf f = pure .machine) (hplain:args.any (·.1) = false)
 (h:wpAny M A (evalArgs f true args []) (fun a s₁=>wpAny M A (call f (first ++ a.pos) a.kw) Q E s₁) E s) :
 wpAny M A (callWith pos f first args []) Q E s:=by
 unfold callWith
 refine wpAny_bind (wpAny_holding (wpAny_mono h (fun a s₁ h₁=>wpAny_bind (wpAny_standAt ?_)) fun _ _ x=>x))
 rw [hplain,hf]
 refine wpAny_bind (wpAny_pure ?_)
 exact wpAny_bind (wpAny_mono h₁ (fun r s₂ hr=>wpAny_bind (wpAny_holding (wpAny_point (wpAny_pure hr)))) fun _ _ x=>x)
def SndB (F:Fx) (ir:IEs):Prop:=∀ es,chkEs F.sc ir es = true->∀ (op:BoolOp) (pos:Pos) m l s sf (E:PR),F.St s m l sf ->
 (∀ (P:QE) (Q:PR),wpB F.C op ir l sf P->Out F s m l P Q->wpAny F.M F.A (boolOp pos op (evalEach es F.env)) Q E s) /\
 (∀ (P:Bool->Stem->Prop) (Q:Bool->Shared->Prop),wpB F.C op ir l sf (fun v s=>asB v fun b=>P b s)->(∀ b sf' s',P b sf'->F.To s m l s' sf'->Q b s')->wpAny F.M F.A (allTrue op es F.env) Q E s)
theorem sndB_nil:SndB F .nil:=fun es h op pos m l s sf E S=>⟨fun P Q hw=>hw.elim,fun P Q hw=>hw.elim⟩
theorem boolOp_cons {pos:Pos} {op:BoolOp} {x y:Sem Value} {r:List (Sem Value)}:boolOp pos op (x :: y :: r) = (do
 let v <- x
 standAt pos
 let t <- holding [v] (truthy v)
 match op,t with
 | .And,false | .Or,true=>pure v
 | _,_=>boolOp pos op (y :: r)):=rfl
theorem sndB_cons {a:IE} {r:IEs} (ha:SndE F a) (ht:SndT F a) (hr:SndB F r):SndB F (.cons a r):=by
 intro es h op pos m l s sf E S
 refine cons_sh h fun x xs he h0 h1 h2=>?_
 subst he
 cases r with
 | nil =>
  cases nil_ok h2
  refine ⟨fun P Q hw hq=>ha x h1 m l s sf _ Q E S hw fun v s1 y1 t1 hw T1 r1=>?_,fun P Q hw hq=>?_⟩
  ·obtain ⟨b,rfl,hb⟩:=asB_inv hw
   exact hq.here T1 hb r1
  ·have g:=ht x h1 m l s sf P (fun b s'=>Q b s') E S hw hq
   cases op
   ·refine wpAny_allTrue_And_cons (wpAny_mono g (fun b s' hb=>?_) fun _ _ x=>x)
    cases b
    ·exact hb
    ·exact wpAny_allTrue_And_nil hb
   ·refine wpAny_allTrue_Or_cons (wpAny_mono g (fun b s' hb=>?_) fun _ _ x=>x)
    cases b
    ·exact wpAny_allTrue_Or_nil hb
    ·exact hb
 | cons i2 i3 =>
  refine cons_sh h2 fun x2 xs2 he2 _ _ _=>?_
  subst he2
  refine ⟨fun P Q hw hq=>?_,fun P Q hw hq=>?_⟩
  ·show wpAny F.M F.A (boolOp pos op (eval x _ :: eval x2 _ :: evalEach xs2 _)) Q E s
   rw [boolOp_cons]
   refine wpAny_bind (ha x h1 m l s sf _ _ E S hw fun v s1 y1 t1 hw T1 r1=>?_)
   obtain ⟨b,rfl,hb⟩:=asB_inv hw
   cases r1.bool_inv
   have again:=fun hw=>(hr _ h2 op pos m l t1 s1 E T1.st).1 P Q hw (hq.after T1)
   refine wpAny_bind (wpAny_standAt (wpAny_bind (wpAny_holding (wpAny_truthy_bool ?_))))
   cases op <;> cases b
   ·exact wpAny_pure (hq.here T1 (hb.f rfl) (.bool _))
   ·exact again (hb.t rfl)
   ·exact again (hb.f rfl)
   ·exact wpAny_pure (hq.here T1 (hb.t rfl) (.bool _))
  ·have again:=fun (s1:Stem) (t1:Shared) (T1:F.To s m l t1 s1) hw=>(hr _ h2 op pos m l t1 s1 E T1.st).2 P Q hw fun b s2 t2 hb T2=>hq b s2 t2 hb (T1.trans T2)
   have one:=fun R hq'=>ht x h1 m l s sf (fun b s1=>bopB op false (wpB F.C op (.cons i2 i3)) l s1 (fun v s=>asB v fun b=>P b s) b) R E S hw hq'
   cases op
   ·refine wpAny_allTrue_And_cons (one _ fun b s1 t1 hb T1=>?_)
    cases b
    ·exact hq _ _ _ (hb.f rfl) T1
    ·exact again s1 t1 T1 (hb.t rfl)
   ·refine wpAny_allTrue_Or_cons (one _ fun b s1 t1 hb T1=>?_)
    cases b
    ·exact again s1 t1 T1 (hb.f rfl)
    ·exact hq _ _ _ (hb.t rfl) T1
theorem snd_bop {op:BoolOp} {es:IEs} (h:SndB F es):SndE F (.bop op es) /\ SndT F (.bop op es):=by
 have sh:∀ {e:EX} {G:Prop},chkE F.sc (.bop op es) e = true->(∀ xs p,e = .BoolOp op xs p->chkEs F.sc es xs = true->G)->G:=fun {e G} h k=>by
  obtain ⟨⟨o,x⟩,hp,h⟩:=opt_inv h
  obtain ⟨h,h2⟩:=and_inv h
  exact vBop_ok hp fun p he=>k x p (by rw [he,show o = op from beq_iff_eq.mp h]) h2
 refine ⟨fun e hc m l s sf P Q E S hw hq=>sh hc fun xs p he h1=>?_,fun e hc m l s sf P Q E S hw hq=>sh hc fun xs p he h1=>?_⟩
 ·subst he
  rw [arm_eval_BoolOp]
  exact (h xs h1 op p m l s sf E S).1 P Q hw hq
 ·subst he
  exact wpAny_isTrue_BoolOp ((h xs h1 op p m l s sf E S).2 P Q hw hq)
end
section
variable {F:Fx}
theorem wpAny_Subscript_any {w:World} {A:Around} {value slice:EX} {env:Env} {pos:Pos} {s:Shared} {Q:PR} {E:PR}
 (hs:∀ a b p,slice ≠ .Slice a b none p)
 (h:wpAny (model PG w) A (eval value env) (fun o s₁=>wpAny (model PG w) A (eval slice env) (fun i s₂=>SubscriptOn (model PG w) A o i Q E s₂) E s₁) E s) :
 wpAny (model PG w) A (eval (.Subscript value slice pos) env) Q E s:=by
 rw [arm_eval_Subscript]
 refine wpAny_bind (wpAny_mono h (fun o s₁ h₁=>wpAny_bind (wpAny_holding (wpAny_mono h₁ (fun i s₂ h₂=>wpAny_bind (wpAny_standAt ?_)) fun _ _ x=>x)))
  fun _ _ x=>x)
 obtain ⟨T,id,hl,hT,hg⟩:=h₂
 refine wpAny_bind ?_
 rw [getitemInPython_of_ne hT.not_modules]
 refine wpAny_bind (wpAny_specialOf hT hl (wpAny_pure ?_))
 have e:subscripted slice false o i = operate [o,i] (getItem o i):=by
  cases slice with
  | Slice a b c p=>cases c with
   | none=>exact absurd rfl (hs _ _ _)
   | some c=>rfl
  | _=>rfl
 simp only [e]
 exact wpAny_bind (wpAny_operating (wpAny_mono hg (fun r s₃ h₃=>wpAny_bind (wpAny_letTemporaryGo (wpAny_pure h₃))) fun _ _ x=>x))
theorem wpAny_Subscript_sl {w:World} {A:Around} {value:EX} {a b:Option EX} {p:Pos} {env:Env} {pos:Pos} {s:Shared} {Q:PR} {E:PR}
 (h:wpAny (model PG w) A (eval value env) (fun o s₁=>wpAny (model PG w) A (eval (.Slice a b none p) env) (fun i s₂=>SubscriptOn (model PG w) A o i Q E s₂) E s₁) E s) :
 wpAny (model PG w) A (eval (.Subscript value (.Slice a b none p) pos) env) Q E s:=by
 rw [arm_eval_Subscript]
 refine wpAny_bind (wpAny_mono h (fun o s₁ h₁=>wpAny_bind (wpAny_holding (wpAny_mono h₁ (fun i s₂ h₂=>wpAny_bind (wpAny_standAt ?_)) fun _ _ x=>x)))
  fun _ _ x=>x)
 obtain ⟨T,id,hl,hT,hg⟩:=h₂
 refine wpAny_bind ?_
 rw [getitemInPython_of_ne hT.not_modules]
 refine wpAny_bind (wpAny_specialOf hT hl (wpAny_pure ?_))
 exact wpAny_bind (wpAny_operating (wpAny_mono hg (fun r s₃ h₃=>wpAny_bind (wpAny_letTemporaryGo (wpAny_pure h₃))) fun _ _ x=>x))
theorem snd_idx {a i:IE} (ha:SndE F a) (hi:SndE F i):SndE F (.idx a i) /\ SndT F (.idx a i):=by
 refine both (fun e h=>?_) fun e h m l s sf P Q E S hw hq=>?_
 ·obtain ⟨p,hp,h⟩:=opt_inv h
  exact vSub_ok hp fun _ he=>by rw [he]; rfl
 obtain ⟨⟨x,y⟩,hp,h⟩:=opt_inv h
 obtain ⟨h,h2⟩:=and_inv h
 obtain ⟨h1,h3⟩:=and_inv h
 refine vSub_ok hp fun p he=>?_
 subst he
 refine wpAny_Subscript_any (fun a b p z=>by have z:y = _:=z; rw [show (x,y).2 = y from rfl,z] at h2; exact absurd h2 fT) (ha x h1 m l s sf _ _ E S hw fun xv s1 y1 t1 hw T1 r1=>hi y h3 m l t1 s1 _ _ E T1.st hw fun yv s2 y2 t2 hw T2 r2=>?_)
 exact p_idx T2.st.toSit (T2.up r1) r2 hw (hq.nxt (T1.trans T2))
theorem sndO {a:IE} (h:SndE F a) {o:Option EX} (hc:partOk (isNoneCon a) (chkE F.sc a) o = true) {m:SV} {l:Lc} {s:Shared} {sf:Stem} {P:QE} {Q E:PR} (S:F.St s m l sf) (hw:wpE F.C a l sf P) (hq:Out F s m l P Q):wpAny F.M F.A (evalPart o F.env) Q E s:=by
 cases o with
 | none =>
  cases a with
  | con v=>cases v with
   | none=>exact evalPart_none_step (hq.here (.refl S) hw .none)
   | _=>exact absurd hc fT
  | _=>exact absurd hc fT
 | some e=>exact evalPart_some_step (h e hc m l s sf P Q E S hw hq)
theorem bnd_inv {v:V} {h:Heap} {y:Value} {P:Option Int->Prop} (r:VR F.c h v y) (e:bnd v P):∃ p:Option (Int × Tok),y = partValue p /\ P (p.map (·.1)):=by
 cases v with
 | none=>cases r; exact ⟨none,rfl,e⟩
 | int n=>obtain ⟨t,rfl⟩:=r.int_inv; exact ⟨some (n,t),rfl,e⟩
 | _=>exact e.elim
theorem snd_slc {a lo hi:IE} (ha:SndE F a) (hl:SndE F lo) (hh:SndE F hi):SndE F (.slc a lo hi) /\ SndT F (.slc a lo hi):=by
 refine both (fun e h=>?_) fun e h m l s sf P Q E S hw hq=>?_
 ·obtain ⟨p,hp,h⟩:=opt_inv h
  exact vSub_ok hp fun _ he=>by rw [he]; rfl
 obtain ⟨⟨x,y⟩,hp,h⟩:=opt_inv h
 obtain ⟨h1,h⟩:=and_inv h
 obtain ⟨⟨u,v,w⟩,hs,h⟩:=opt_inv h
 obtain ⟨h,h4⟩:=and_inv h
 obtain ⟨h2,h3⟩:=and_inv h
 refine vSub_ok hp fun p he=>vSlice_ok hs fun p2 he2=>?_
 cases w with
 | some _=>exact absurd h2 fT
 | none =>
 have he2:y = .Slice u v none p2:=he2
 subst he2 he
 refine wpAny_Subscript_sl (ha x h1 m l s sf _ _ E S hw fun xv s1 y1 t1 hw T1 r1=>?_)
 refine wpAny_Slice (sndO hl h3 T1.st hw fun yv s2 y2 t2 hw T2 r2=>sndO hh h4 T2.st hw fun zv s3 y3 t3 hw T3 r3=>wpAny_pure ?_)
 obtain ⟨st,rfl,h5⟩:=str1_inv hw
 obtain ⟨t,rfl,hlen⟩:=r1.str_inv
 obtain ⟨pl,rfl,h6⟩:=bnd_inv (T3.up r2) h5
 obtain ⟨ph,rfl,h7⟩:=bnd_inv r3 h6
 refine ⟨_,_,PySem.F.slot_str_getitem.lookup,typeIs_str _ _ _,?_⟩
 have T:=(T1.trans T2).trans T3
 have fin:∀ (t':Tok) (tk:Nat),(F.c.pos = true->0 < tk)->Q (.str (tx (slice st (pl.map (·.1)) (ph.map (·.1)))) t') { t3 with heap:=t3.heap.push { cls:=.type "slice",data:=.fields #[partValue pl,partValue ph,.none] },toks:=tk }:=fun t' tk ht =>
  hq.here (T.trans (.keep T.st (Step.push _ _ _ _) ht)) h7 (.str _ _ (Nat.le_trans (slice_le _ _ _) hlen))
 refine wpAny_getItem_str_slice (l:=pl) (u:=ph) (st:=none) ⟨_,Heap.get?_push_size _ rfl,rfl,rfl⟩ rfl ?_
 have hsl:=tx_slice st (pl.map (·.1)) (ph.map (·.1))
 unfold Txt.slice at hsl
 unfold sliceMade slicePicked
 simp only [Option.map_none,Option.getD_none] at hsl ⊢
 split
 ·rename_i hc
  rw [if_pos hc] at hsl
  show Q (.str (tx st) t) _
  rw [hsl]
  exact fin t _ T.st.tk
 ·rename_i hc
  rw [if_neg hc] at hsl
  rw [hsl]
  refine ⟨?_,fin _ _ fun _=>Nat.succ_pos _⟩
  rw [tx_len]
  exact Nat.le_trans (slice_le _ _ _) (Nat.le_trans hlen (Nat.le_trans (Nat.le_add_right _ _) lim_line))
theorem made {vs:List V} {ys:List Value} {n:Nat} {h:Heap} (h1:n <= 1000) (h2:vs.length = n) (r:VRs F.c h vs ys):vs.length <= lim /\ ys.length <= sizeLine:=by
 have:=r.len
 have:=lim_line
 have:1000 <= lim:=by decide
 exact ⟨by lia,by lia⟩
theorem pushed {s:Shared} {m:SV} {l:Lc} {sf:Stem} (S:F.St s m l sf) (o:Obj):F.To s m l { s with heap:=s.heap.push o } sf:=.keep S (t:=s.toks) (Step.push _ _ _ _) S.tk
theorem snd_list {es:IEs} (h:SndEs F es):SndE F (.list es) /\ SndT F (.list es):=by
 refine both (fun e h=>?_) fun e hc m l s sf P Q E S hw hq=>?_
 ·obtain ⟨p,hp,h⟩:=opt_inv h
  exact vList_ok hp fun _ he=>by rw [he]; rfl
 obtain ⟨x,hp,hc⟩:=opt_inv hc
 obtain ⟨h1,h2⟩:=and_inv hc
 refine vList_ok hp fun p he=>?_
 subst he
 refine wpAny_List (h x h2 m l s sf p _ _ E S hw fun vs s1 ys t1 hw hn T1 r1=>?_)
 obtain ⟨g1,g2⟩:=made (of_decide_eq_true h1) hn r1
 have T2:=pushed T1.st { cls:=.type "list",data:=.seq ys.toArray }
 exact ⟨g2,hq.here (T1.trans T2) hw (.list T1.st.toSit.fresh ⟨_,Heap.get?_push_size _ rfl,rfl,_,rfl⟩ g1 (r1.step T2.to fun _ q=>q))⟩
theorem snd_tup {es:IEs} (h:SndEs F es):SndE F (.tup es) /\ SndT F (.tup es):=by
 refine both (fun e h=>?_) fun e hc m l s sf P Q E S hw hq=>?_
 ·obtain ⟨p,hp,h⟩:=opt_inv h
  exact vTup_ok hp fun he=>by rw [he]; rfl
 obtain ⟨⟨x,n,p⟩,hp,hc⟩:=opt_inv hc
 obtain ⟨h1,h2⟩:=and_inv hc
 refine vTup_ok hp fun he=>?_
 subst he
 refine wpAny_Tuple (h x h2 m l s sf p _ _ E S hw fun vs s1 ys t1 hw hn T1 r1=>?_)
 obtain ⟨g1,g2⟩:=made (of_decide_eq_true h1) hn r1
 have T2:=pushed T1.st { cls:=.type "tuple",data:=.seq ys.toArray }
 exact ⟨g2,hq.here (T1.trans T2) hw (.tup T1.st.toSit.fresh ⟨_,Heap.get?_push_size _ rfl,rfl,_,rfl⟩ g1 (r1.step T2.to fun _ q=>q))⟩
theorem back {s t1 t2:Shared} {m:SV} {l:Lc} {s1 sf':Stem} (T1:F.To s m l t1 s1) (S2:Sit F.c F.A t2 sf') (st2:Step F.c.fs F.c.ds t1.heap t2.heap):F.To s m l t2 sf':=by
 have:=T1.st.step (t:=t2.toks) (sf':=sf') st2 S2.slf S2.tk
 have e:{ t1 with heap:=t2.heap,toks:=t2.toks } = t2:=by
  obtain ⟨hh,gg,d,tk,os⟩:=t2
  have e1:=S2.gens; have e2:=S2.os; have e3:=S2.dr
  have e4:=T1.st.gens; have e5:=T1.st.os; have e6:=T1.st.dr
  simp only at e1 e2 e3
  subst e1 e2 e3
  simp [e4,e5,e6]
 rw [e] at this
 exact ⟨this,T1.to.trans st2⟩
theorem blt_sh {n:Str} {g:List EX->Bool} {e:EX} {G:Prop} (h:bltOk F.sc n g e = true) (k:∀ p pos xs,e = .Call (.Name n p) xs [] pos->glob F.sc n = true->g xs = true->G):G:=by
 obtain ⟨⟨o,xs,w,pos⟩,hp,h⟩:=opt_inv h
 obtain ⟨h,h3⟩:=and_inv h
 obtain ⟨h1,h2⟩:=and_inv h
 exact vCall_ok hp fun he=>name_isGlob h1 fun p he1 hg=>k p pos xs (by rw [he,show o = _ from he1,show w = [] from nil_ok h2]) hg h3
theorem met_sh {n:Str} {f:EX->Bool} {g:List EX->Bool} {e:EX} {G:Prop} (h:metOk n f g e = true) (k:∀ o ap pos xs,e = .Call (.Attribute o n ap) xs [] pos->f o = true->(ap.endLine == pos.line) = true->xs.length < 20->g xs = true->G):G:=by
 obtain ⟨⟨o,xs,w,pos⟩,hp,h⟩:=opt_inv h
 obtain ⟨⟨o',a,ap⟩,hp2,h⟩:=opt_inv h
 obtain ⟨h,h1⟩:=and_inv h
 obtain ⟨h,h2⟩:=and_inv h
 obtain ⟨h,h3⟩:=and_inv h
 obtain ⟨h,h4⟩:=and_inv h
 obtain ⟨h5,h6⟩:=and_inv h
 exact vCall_ok hp fun he=>vAttr_ok hp2 fun he2=>k o' ap pos xs (by rw [he,show o = _ from he2,show w = [] from nil_ok h3,show a = n from beq_iff_eq.mp h5]) h6 h4 (of_decide_eq_true h2) h1
theorem blt_pl {n:Str} {g:List EX->Bool} {e:EX} (h:bltOk F.sc n g e = true):plainT e = true:=blt_sh h fun p pos xs he _ _=>by rw [he]; rfl
theorem met_pl {n:Str} {f:EX->Bool} {g:List EX->Bool} {e:EX} (h:metOk n f g e = true):plainT e = true:=met_sh h fun p pos xs w he _ _ _ _=>by rw [he]; rfl
theorem snd_callF {g:FId} {es:IEs} (X:Act F) (h:SndEs F es):SndE F (.callF g es) /\ SndT F (.callF g es):=by
 refine both (fun e h=>blt_pl h) fun e hc m l s sf P Q E S hw hq=>?_
 refine blt_sh hc fun p pos xs he hg hx=>?_
 subst he
 obtain ⟨f,hf1,⟨o,fd,ho,hd⟩,run⟩:=X.T.fn g
 refine wpAny_Call_NameR (p_glob (In.here X.X S.toSit) X.hk hg hf1 ?_)
 refine callWith_function (o:=o) (fd:=fd) (evalArgs_all hx (h xs hx m l s sf pos _ _ E S hw fun vs s1 ys t1 hw hn T1 r1=>⟨⟨T1.st.base _ _ ho,hd⟩,?_⟩))
 exact run F.c.envs F.A t1 s1 vs ys P _ _ T1.st.toSit X.room r1 hw.ex fun v s2 y t2 hp S2 st2 r2=>hq.here (back T1 S2 st2) hp r2
theorem mnm_fld:∀ (g:MId) (f:Fld),mnm g ≠ fname f:=by
 have h:∀ g:MId,[fname .cur,fname .csr,fname .lim,fname .lb,fname .bra,fname .ket,fname .p2,fname .p1,fname .pV].contains (mnm g) = false:=fun g=>by cases g <;> kernel_rfl
 intro g f e
 have:=h g
 rw [e] at this
 cases f <;> exact absurd this (by decide +kernel)
theorem snd_callM {g:MId} {i:Nat} {es:IEs} (X:Act F) (h:SndEs F es):SndE F (.callM g i es) /\ SndT F (.callM g i es):=by
 refine both (fun e h=>met_pl h) fun e hc m l s sf P Q E S hw hq=>?_
 refine met_sh hc fun o ap pos xs he ho hline hlen hx=>name_isLoc ho fun x p he1 hi=>?_
 subst he1 he
 obtain ⟨v,e,hp⟩:=wOpt_inv hw
 obtain ⟨rfl,hp⟩:=slfK_inv hp
 obtain ⟨f,hf1,hf2,⟨o,fd,ho,hd⟩,run⟩:=X.T.mt g
 rw [arm_eval_Call]
 refine wpAny_bind (m:=eval (.Name x p) _) (p_loc S X.hk hi e fun y _ r=>?_)
 cases r with
 | self hx' =>
  have hform:methodCallForm (xs.length + ([]:List Keyword).length) (backTo pos (starEach xs F.env)) (backToKw pos (keywordEach [] F.env)) = true:=by
   unfold methodCallForm
   rw [Bool.and_eq_true,Bool.and_eq_true]
   refine ⟨⟨star_all hx,rfl⟩,decide_eq_true ?_⟩
   show xs.length + 0 + 0 < 30
   lia
  have hpos:methodCallPos true (.Name x p) F.env ap pos = pure pos:=by unfold methodCallPos; simp [hline]
  refine wpAny_bind (wpAny_standAt ?_)
  unfold methodCall
  rw [hform]
  refine wpAny_bind (wpAny_holding (p_method X.O X.X S.toSit hx' hf1 hf2 (mnm_fld g) ?_))
  refine wpAny_bind (wpAny_of_eq hpos ?_)
  refine callWith_function (o:=o) (fd:=fd) (evalArgs_all hx (h xs hx m l s sf pos _ _ E S hp fun vs s1 ys t1 hw hn T1 r1=>⟨⟨T1.st.base _ _ ho,hd⟩,?_⟩))
  exact run F.c.envs F.A t1 s1 (.self :: vs) _ P _ _ T1.st.toSit X.room (.cons (.self hx') r1) hw.ex fun v s2 y t2 hp S2 st2 r2=>hq.here (back T1 S2 st2) hp r2
end
section
variable {F:Fx}
theorem one_arg {a:IE} (ha:SndE F a) {xs:List EX} (hc:arg1 (chkE F.sc a) xs = true) {f:Value} {pos:Pos} {m:SV} {l:Lc} {s:Shared} {sf:Stem} {P:QE} {Q:Args->Shared->Prop} {E:PR} (S:F.St s m l sf) (hw:wpE F.C a l sf P)
 (hq:Out F s m l P fun y s'=>Q ⟨[y],[]⟩ s'):(backTo pos (starEach xs F.env)).any (·.1) = false /\ (backTo pos (starEach xs F.env)).all (fun x=>!x.1) = true /\ xs.length = 1 /\ wpAny F.M F.A (evalArgs f true (backTo pos (starEach xs F.env)) []) Q E s:=by
 obtain ⟨x,hx,hc⟩:=opt_inv hc
 obtain ⟨h1,h2⟩:=and_inv hc
 cases v1_ok hx
 rw [star_cons (not_inv h1)]
 exact ⟨rfl,rfl,rfl,evalArgs_plain (spliced_cons (ha x h2 m l s sf P _ E S hw fun v s1 y t1 hp T1 r1=>spliced_nil (hq v s1 y t1 hp T1 r1)))⟩
theorem nm1 {n:Str} {a:IE} {f:Value} (X:Act F) (ha:SndE F a) (hf:keeperOf f = pure .machine) (e0:nsIn F.K mainGlobals n = some none) (e1:nsIn F.K builtinsNs n = some (some f)) {e:EX} (hc:bltOk F.sc n (arg1 (chkE F.sc a)) e = true) {m:SV} {l:Lc} {s:Shared} {sf:Stem} {P:QE} {Q E:PR} (S:F.St s m l sf) (hw:wpE F.C a l sf P)
 (hq:Out F s m l P fun y s'=>wpAny F.M F.A (call f [y]) Q E s'):wpAny F.M F.A (eval e F.env) Q E s:=by
 refine blt_sh hc fun p pos xs he hg hx=>?_
 subst he
 refine wpAny_Call_NameR (p_builtin (In.here X.X S.toSit) X.hk hg e0 e1 ?_)
 obtain ⟨g1,_,_,g2⟩:=one_arg ha hx (f:=f) (pos:=pos) (Q:=fun a s₁=>wpAny F.M F.A (call f ([] ++ a.pos) a.kw) Q E s₁) (E:=E) S hw hq
 exact callWith_machine hf g1 g2
theorem snd_len {a:IE} (X:Act F) (ha:SndE F a):SndE F (.len a) /\ SndT F (.len a):=both (fun e h=>blt_pl h) fun e hc m l s sf P Q E S hw hq =>
 nm1 (f:=.builtin "len") X ha rfl X.O.len.1 X.O.len.2 hc S hw fun v s1 y t1 hp T1 r1=>p_len T1.st.toSit r1 hp (hq.nxt T1)
theorem snd_ord {a:IE} (X:Act F) (ha:SndE F a):SndE F (.ord a) /\ SndT F (.ord a):=both (fun e h=>blt_pl h) fun e hc m l s sf P Q E S hw hq =>
 nm1 (f:=.builtin "ord") X ha rfl X.O.ord.1 X.O.ord.2 hc S hw fun v s1 y t1 hp T1 r1=>p_ord T1.st.toSit r1 hp (hq.nxt T1)
theorem snd_listOf {a:IE} (X:Act F) (ha:SndE F a):SndE F (.listOf a) /\ SndT F (.listOf a):=both (fun e h=>blt_pl h) fun e hc m l s sf P Q E S hw hq =>
 nm1 (f:=.type "list") X ha rfl X.O.list.1 X.O.list.2 hc S hw fun v s1 y t1 hp T1 r1=>by
  have hm:Must F.C.loose (wKeys v (atK P s1)):=hp
  cases v with
  | dict ks xs=>exact p_listOf (X.lo hm.t) T1.st.toSit r1 (hq.nxt T1 _ hm.p)
  | _=>exact hm.p.elim
theorem snd_min {a b:IE} (X:Act F) (ha:SndE F a) (hb:SndE F b):SndE F (.min a b) /\ SndT F (.min a b):=by
 refine both (fun e h=>blt_pl h) fun e hc m l s sf P Q E S hw hq=>?_
 refine blt_sh hc fun p pos xs he hg hx=>?_
 subst he
 obtain ⟨⟨x,y⟩,hx,hc⟩:=opt_inv hx
 obtain ⟨hc,h1⟩:=and_inv hc
 obtain ⟨hc,h2⟩:=and_inv hc
 obtain ⟨h3,h4⟩:=and_inv hc
 cases v2_ok hx
 refine wpAny_Call_NameR (p_builtin (In.here X.X S.toSit) X.hk hg X.O.min.1 X.O.min.2 ?_)
 rw [star_cons (not_inv h3),star_cons (not_inv h4)]
 refine callWith_machine rfl rfl (evalArgs_plain (spliced_cons (ha x h2 m l s sf _ _ E S hw fun v s1 y1 t1 hp T1 r1=>?_)))
 refine spliced_cons (hb y h1 m l t1 s1 _ _ E T1.st hp fun v s2 y2 t2 hp T2 r2=>spliced_nil ?_)
 have hm:Must F.C.loose (int2 _ _ fun a b=>P (.int (if b < a then b else a)) s2):=hp
 exact p_min (G:=atK P s2) (X.lo hm.t) T2.st.toSit (T2.up r1) r2 hm.p (hq.nxt (T1.trans T2))
theorem str_met {n:Str} {id:String} {a:IE} {g:List EX->Bool} (ha:SndE F a) (slot:Slot "str" n id) (hty:typeOf (.builtin id) = pure (.type "method_descriptor")) {e:EX} (hc:metOk n (fun o=>goodBase o && chkE F.sc a o) g e = true)
 {m:SV} {l:Lc} {s:Shared} {sf:Stem} {P:T->Stem->Prop} {Q E:PR} (S:F.St s m l sf) (hw:wpE F.C a l sf fun v s=>str1 v fun t=>P t s)
 (hq:∀ t s1 u t1 xs pos,P t s1->F.To s m l t1 s1->t.length <= lim->g xs = true->xs.length < 20->(backTo pos (starEach xs F.env)).any (·.1) = false /\ (backTo pos (starEach xs F.env)).all (fun x=>!x.1) = true /\ wpAny F.M F.A (evalArgs (.builtin id) true (backTo pos (starEach xs F.env)) []) (fun a s₁=>wpAny F.M F.A (call (.builtin id) ([.str (tx t) u] ++ a.pos) a.kw) Q E s₁) E t1)
 (hall:∀ xs,g xs = true->∀ pos,(backTo pos (starEach xs F.env)).all (fun x=>!x.1) = true):wpAny F.M F.A (eval e F.env) Q E s:=by
 refine met_sh hc fun o ap pos xs he ho hline hlen hx=>?_
 subst he
 obtain ⟨h1,h2⟩:=and_inv ho
 refine wpAny_Call_method (by cases o <;> first | rfl | exact absurd h1 fT) ?_ hline PySem.F.plainAttrs_str slot hty ?_
 ·rw [Bool.and_eq_true,Bool.and_eq_true]
  exact ⟨⟨hall xs hx pos,rfl⟩,decide_eq_true (show xs.length + 0 + 0 < 30 by lia)⟩
 ·refine ha o h2 m l s sf _ _ E S hw fun v s1 y t1 hp T1 r1=>?_
  obtain ⟨t,rfl,hp⟩:=str1_inv hp
  obtain ⟨u,rfl,hl⟩:=r1.str_inv
  refine ⟨typeIs_str _ _ _,fun a e=>(nomatch e),?_⟩
  obtain ⟨g1,_,g2⟩:=hq t s1 u t1 xs pos hp T1 hl hx hlen
  exact callWith_machine rfl g1 g2
theorem arg1_all {f:EX->Bool} {xs:List EX} (h:arg1 f xs = true) (pos:Pos):(backTo pos (starEach xs F.env)).all (fun x=>!x.1) = true:=by
 obtain ⟨x,hx,hc⟩:=opt_inv h
 cases v1_ok hx
 rw [star_cons (not_inv (and_inv hc).1)]; rfl
theorem snd_sw {a b:IE} (ha:SndE F a) (hb:SndE F b):SndE F (.sw a b) /\ SndT F (.sw a b):=both (fun e h=>met_pl h) fun e hc m l s sf P Q E S hw hq =>
 str_met (P:=fun t s1=>wpE F.C b l s1 (swK2 t P)) ha PySem.F.slot_str_startswith PySem.F.type_str_startswith hc S hw (fun t s1 u t1 xs pos hp T1 hl hx hlen=>by
  obtain ⟨g1,g2,_,g3⟩:=one_arg hb hx (f:=.builtin "str.startswith") (pos:=pos) (Q:=fun a s₁=>wpAny F.M F.A (call (.builtin "str.startswith") ([.str (tx t) u] ++ a.pos) a.kw) Q E s₁) (E:=E) T1.st hp fun v s2 y t2 hp T2 r2=>by
   obtain ⟨z,rfl,hp⟩:=str1_inv hp
   obtain ⟨t',rfl,_⟩:=r2.str_inv
   exact SC.startswith (by rw [tx_starts]; exact hq.here (T1.trans T2) hp (.bool _))
  exact ⟨g1,g2,g3⟩) fun xs h pos=>arg1_all h pos
theorem snd_ew {a b:IE} (ha:SndE F a) (hb:SndE F b):SndE F (.ew a b) /\ SndT F (.ew a b):=both (fun e h=>met_pl h) fun e hc m l s sf P Q E S hw hq =>
 str_met (P:=fun t s1=>wpE F.C b l s1 (ewK2 t P)) ha PySem.F.slot_str_endswith PySem.F.type_str_endswith hc S hw (fun t s1 u t1 xs pos hp T1 hl hx hlen=>by
  obtain ⟨g1,g2,_,g3⟩:=one_arg hb hx (f:=.builtin "str.endswith") (pos:=pos) (Q:=fun a s₁=>wpAny F.M F.A (call (.builtin "str.endswith") ([.str (tx t) u] ++ a.pos) a.kw) Q E s₁) (E:=E) T1.st hp fun v s2 y t2 hp T2 r2=>by
   obtain ⟨z,rfl,hp⟩:=str1_inv hp
   obtain ⟨t',rfl,_⟩:=r2.str_inv
   exact SC.endswith (by rw [tx_ends]; exact hq.here (T1.trans T2) hp (.bool _))
  exact ⟨g1,g2,g3⟩) fun xs h pos=>arg1_all h pos
theorem snd_upper {a:IE} (ha:SndE F a):SndE F (.upper a) /\ SndT F (.upper a):=both (fun e h=>met_pl h) fun e hc m l s sf P Q E S hw hq =>
 str_met (P:=fun t s1=>Up t (atK P s1)) ha PySem.F.slot_str_upper PySem.F.type_str_upper hc S hw (fun t s1 u t1 xs pos hp T1 hl hx hlen=>by
  cases nil_ok hx
  obtain ⟨ch,rfl,hch,hp⟩:=hp.ex
  have e:=tx_upper ch hch
  refine ⟨rfl,rfl,evalArgs_all (F:=F) (ir:=.nil) rfl (spliced_nil ?_)⟩
  refine SC.upper (by rw [e]; rfl) ?_
  rw [e]
  exact hq.here (T1.trans (.tok T1.st _ fun _=>Nat.succ_pos _)) hp (.str [ch - 32] _ (Nat.le_trans (Nat.le_of_eq rfl) (by decide:1 <= lim)))) fun xs h pos=>by cases nil_ok h; rfl
end
section
variable {F:Fx}
noncomputable def keyE:Option EX->EX
 | some e=>e
 | none=>.Constant .none 0 default
noncomputable def dpairs (pos:Pos) (env:Env):List (Option EX)->List EX->List (Sem Value × Sem Value)
 | [],_=>[]
 | k :: ks,l=>match l with
  | v :: vs=>(eval (keyE k) env,do let x <- eval v env; standAt pos; pure x) :: dpairs pos env ks vs
  | []=>[]
theorem keys_inv {k:T} {ks:List T} {l:List (Option EX)} {G:Prop} (h:keysOk (k :: ks) l = true) (g:∀ a b r,l = some (.Constant (.str (tx k)) a b) :: r->k.length <= lim->keysOk ks r = true->G):G:=by
 obtain ⟨⟨o,r⟩,hp,h⟩:=opt_inv h
 obtain ⟨e,he,h⟩:=opt_inv h
 obtain ⟨h,h2⟩:=and_inv h
 obtain ⟨c,hc,h⟩:=opt_inv h
 refine vConst_ok hc fun a b hb=>?_
 cases c with
 | str s =>
  obtain ⟨h1,h3⟩:=and_inv h
  refine g a b r ?_ (of_decide_eq_true h3) h2
  rw [vCons_ok hp,show o = some e from he,hb,show s = tx k from Str.ext' (by rw [<- of_decide_eq_true h1])]
 | _=>exact absurd h fT
theorem keys_len:∀ {ts:List T} {ks:List (Option EX)},keysOk ts ks = true->ts.length = ks.length
 | [],ks,h=>by cases nil_ok h; rfl
 | k :: ts,ks,h=>keys_inv h fun a b r he _ h2=>by rw [he]; exact congrArg (· + 1) (keys_len h2)
theorem keys_lim:∀ {ts:List T} {ks:List (Option EX)},keysOk ts ks = true->∀ k ∈ ts,k.length <= lim
 | [],_,_=>fun k h=>nomatch h
 | k :: ts,ks,h=>keys_inv h fun a b r he hl h2 x hx=>by
  rcases List.mem_cons.mp hx with e | hx
  ·rw [e]; exact hl
  ·exact keys_lim h2 x hx
theorem dpairs_len {pos:Pos} {env:Env}:∀ {ks:List (Option EX)} {vs:List EX},ks.length = vs.length->(dpairs pos env ks vs).length = ks.length
 | [],vs,_=>rfl
 | k :: ks,v :: vs,h=>congrArg (· + 1) (dpairs_len (Nat.succ.inj h))
theorem dshape {pos:Pos} {env:Env}:∀ {ts:List T} {ks:List (Option EX)} {vs:List EX},keysOk ts ks = true->ks.length = vs.length ->
 (evalEachOpt ks env).zip ((evalEach vs env).map fun v=>do let x <- v; standAt pos; pure x) = (dpairs pos env ks vs).map fun p=>(some p.1,p.2)
 | [],ks,vs,h,_=>by cases nil_ok h; rfl
 | k :: ts,ks,vs,h,hl=>keys_inv h fun a b r he _ h2=>by
  subst he
  cases vs with
  | nil=>cases hl
  | cons v vs =>
   have ih:=dshape (pos:=pos) (env:=env) (vs:=vs) h2 (Nat.succ.inj hl)
   show _ :: (evalEachOpt r env).zip ((evalEach vs env).map fun v=>do let x <- v; standAt pos; pure x) = _ :: (dpairs pos env r vs).map fun p=>(some p.1,p.2)
   rw [ih]
   rfl
def SndP (F:Fx) (ir:IEs):Prop:=∀ es,chkEs F.sc ir es = true->∀ ts ks,keysOk ts ks = true->ks.length = es.length->∀ (pos:Pos) m l s sf (P:List V->Stem->Prop) (Q:List (Value × Value)->Shared->Prop) (E:PR),F.St s m l sf->wpEs F.C ir l sf P ->
 (∀ vs sf' ys zs s',P vs sf'->Carries (PySem.strKind PG F.c.w) ys ((ts.map tx).zip zs)->zs.length = ts.length->VRs F.c s'.heap vs zs->F.To s m l s' sf'->Q ys s')->wpAny F.M F.A (evalPairs (dpairs pos F.env ks es)) Q E s
theorem sndP_nil:SndP F .nil:=fun es h ts ks hk hl pos m l s sf P Q E S hw hq=>by
 cases nil_ok h
 cases List.length_eq_zero_iff.mp hl
 cases List.length_eq_zero_iff.mp (keys_len hk)
 exact wpAny_pure (hq [] sf [] [] s hw trivial rfl .nil (.refl S))
theorem sndP_cons {a:IE} {r:IEs} (ha:SndE F a) (hr:SndP F r):SndP F (.cons a r):=by
 intro es h ts ks hk hl pos m l s sf P Q E S hw hq
 refine cons_sh h fun x xs he _ h1 h2=>?_
 subst he
 cases ts with
 | nil=>cases nil_ok hk; cases hl
 | cons t ts =>
  refine keys_inv hk fun a b rk hek _ hk2=>?_
  subst hek
  show wpAny F.M F.A (evalPairs ((eval (.Constant (.str (tx t)) a b) F.env,do let x <- eval x F.env; standAt pos; pure x) :: dpairs pos F.env rk xs)) Q E s
  rw [evalPairs]
  refine wpAny_bind (wpAny_Constant_str (wpAny_bind (wpAny_holding (wpAny_bind ?_))))
  have T0:=Fx.To.tok S (s.toks + 1) fun _=>Nat.succ_pos _
  refine ha x h1 m l _ sf _ _ E T0.st hw fun v s1 y t1 hw T1 r1=>wpAny_bind (wpAny_standAt (wpAny_pure ?_))
  refine wpAny_bind (wpAny_holding (hr xs h2 ts rk hk2 (Nat.succ.inj hl) pos m l t1 s1 _ _ E T1.st hw fun vs s2 ys zs t2 hw hc hz r2 T2=>wpAny_pure ?_))
  refine hq _ _ _ (y :: zs) t2 hw ?_ (congrArg (· + 1) hz) (.cons (T2.up r1) r2) ((T0.trans T1).trans T2)
  exact ⟨by simp [Value.isStrOf,PySem.strKind],rfl,hc⟩
theorem flat_vr {h h':Heap} {v:V} {y:Value} (r:VR F.c h v y) (e:flat v = true):VR F.c h' v y:=by
 cases v with
 | none=>cases r; exact .none
 | bool b=>cases r; exact .bool b
 | int n=>obtain ⟨t,rfl⟩:=r.int_inv; exact .int n t
 | str n=>obtain ⟨t,rfl,hl⟩:=r.str_inv; exact .str n t hl
 | _=>exact absurd e fT
theorem flat_vrs {h h':Heap}:∀ {xs:List V} {vs:List Value},VRs F.c h xs vs->xs.all flat = true->VRs F.c h' xs vs
 | [],_,r,_=>by rw [r.nil_inv]; exact .nil
 | x :: xs,_,r,e=>by
  obtain ⟨y,ys,rfl,a,b⟩:=r.cons_inv
  obtain ⟨e1,e2⟩:=and_inv e
  exact .cons (flat_vr a e1) (flat_vrs b e2)
theorem snd_dict (X:Act F) {ts:List T} {es:IEs} (h1x:SndP F es):SndE F (.dict ts es) /\ SndT F (.dict ts es):=by
 refine both (fun e h=>?_) fun e hc m l s sf P Q E S hw hq=>?_
 ·obtain ⟨p,hp,h⟩:=opt_inv h
  exact vDict_ok hp fun _ he=>by rw [he]; rfl
 obtain ⟨⟨ks,xs⟩,hp,hc⟩:=opt_inv hc
 obtain ⟨hc,hx⟩:=and_inv hc
 obtain ⟨hc,hc5⟩:=and_inv hc
 obtain ⟨hc,hc2⟩:=and_inv hc
 obtain ⟨hc,hc3⟩:=and_inv hc
 obtain ⟨et,hc1⟩:=and_inv hc
 have hc1:=of_decide_eq_true hc1
 have hc2:ts.length = xs.length:=of_decide_eq_true hc2
 have hc3:=of_decide_eq_true hc3
 refine vDict_ok hp fun pos he=>?_
 subst he
 show wpAny _ _ (eval (.Dict ks xs pos) F.env) Q E s
 have hl:=keys_len et
 have hlen:ks.length = xs.length:=hl.symm.trans hc2
 have hd:=dpairs_len (pos:=pos) (env:=F.env) hlen
 refine wpAny_Dict_pairs (knd:=PySem.strKind PG F.c.w) (dshape et hlen) (fun e=>by rw [e] at hd; have:0 = ks.length:=hd; lia) (by lia) ?_
 have T0:=pushed S { cls:=.type "dict",data:=.dict #[] }
 have fresh:=S.toSit.fresh
 refine h1x xs hx ts ks et hlen pos m l _ sf _ _ E T0.st hw fun vs s1 ys zs t1 hw hca hz r1 T1=>⟨_,hca,?_,fun h' hdo hsb=>?_⟩
 ·refine ⟨_,#[],0,T1.to.same _ _ (Heap.get?_push_size _ rfl) (fun z=>fresh (.inl z)) (fun z=>fresh (.inr z)),?_⟩
  exact ⟨⟨rfl,rfl,rfl⟩,rfl,(by intro a b; simp at b),.nil,by simp⟩
 ·have hm:Must (vs.all flat) (P (.dict ts vs) s1):=hw
  have nd:(((ts.map tx).zip zs).map (·.1)).Nodup:=by
   have:((ts.map tx).zip zs).map (·.1) = ts.map tx:=by
    rw [List.map_fst_zip]; simp [hz]
   rw [this]
   exact List.Pairwise.map _ (fun a b hab e=>hab (tx_inj e)) (of_decide_eq_true hc5)
  rw [merged_nil_of_nodup _ nd] at hdo
  have st1:=T1.to
  have up:∀ {b:Addr} {o:Obj},s.heap.get? b = some o->b ≠ s.heap.objs.size:=fun e=>Nat.ne_of_lt (Heap.lt_size e)
  have st2:Step F.c.fs F.c.ds s.heap h':=⟨fun b o e m n=>(hsb.2 b (up e)).trans (st1.same b o (Heap.get?_push_of_some _ e) m n),fun b o e m n=>by
   obtain ⟨sl,h⟩:=st1.slot b o (Heap.get?_push_of_some _ e) m n
   exact ⟨sl,(hsb.2 b (up e)).trans h⟩⟩
  have slf:SelfAt F.c h' s1:=by
   refine ⟨fun x d hx=>?_⟩
   obtain ⟨g1,g2,g3,g4,g5,g6,mA,g7,g8⟩:=T1.st.slf.at_ x d hx
   obtain ⟨_,_,_,_,_,f6,mA',⟨od,_,_,f7,_⟩,_⟩:=S.slf.at_ x d hx
   exact ⟨g1,g2,g3,g4,g5,(hsb.2 x (up f6)).trans g6,mA,ns1_up g7 fun o e=>⟨o.slots,(hsb.2 d (up f7)).trans e⟩,g8⟩
  have S2:=S.step (t:=t1.toks + ys.length) st2 slf fun hp=>Nat.lt_of_lt_of_le (T1.st.tk hp) (Nat.le_add_right _ _)
  have es:({ t1 with heap:=h',toks:=t1.toks + ys.length }:Shared) = { s with heap:=h',toks:=t1.toks + ys.length }:=by
   have e1:=T1.st.gens; have e2:=T1.st.os; have e3:=T1.st.dr
   have e4:=S.gens; have e5:=S.os; have e6:=S.dr
   rw [e1,e2,e3,<- e4,<- e5,<- e6]
  rw [es]
  have h15:15 <= lim:=by decide
  exact hq.here ⟨S2,st2⟩ hm.p (.dict fresh ⟨hdo,hz⟩ ⟨⟨Nat.le_trans hc1 h15,keys_lim et⟩,X.lists _ (by
   cases e:F.c.H0.get? s.heap.objs.size with
   | none=>rfl
   | some o=>exact absurd (Heap.lt_size (S.base _ _ e)) (Nat.lt_irrefl _))⟩ (flat_vrs r1 hm.t))
theorem sndAll (X:Act F):(∀ ir:IE,SndE F ir /\ SndT F ir) /\ ∀ ir:IEs,SndEs F ir /\ SndB F ir /\ SndP F ir:=by
 have A:∀ ir:IE,SndE F ir /\ SndT F ir:=IE.rec (motive_1:=fun ir=>SndE F ir /\ SndT F ir) (motive_2:=fun ir=>SndEs F ir /\ SndB F ir /\ SndP F ir)
  (fun v=>snd_con) (fun i=>snd_loc X) (fun i f=>snd_fld X) (fun i=>snd_amS X) (fun i=>snd_amI X) (fun i=>snd_amR X) (fun t=>snd_tab X) (snd_short X)
  (fun op a b ha hb=>snd_bin ha.1 hb.1) (fun op a b ha hb=>snd_cmp ha.1 hb.1) (fun o1 o2 a b d ha hb hd=>snd_cmp2 ha.1 hb.1 hd.1) (fun op es h=>snd_bop h.2.1) (fun a h=>snd_not h.1 h.2) (fun a h=>snd_neg h.1)
  (fun d a b hd ha hb=>snd_ite hd.2 ha.1 hb.1 ha.2 hb.2) (fun a i ha hi=>snd_idx ha.1 hi.1) (fun a lo hi ha hl hh=>snd_slc ha.1 hl.1 hh.1) (fun g es h=>snd_callF X h.1) (fun g i es h=>snd_callM X h.1)
  (fun a h=>snd_len X h.1) (fun a h=>snd_ord X h.1) (fun a b ha hb=>snd_min X ha.1 hb.1) (fun a h=>snd_listOf X h.1) (fun a b ha hb=>snd_sw ha.1 hb.1) (fun a b ha hb=>snd_ew ha.1 hb.1) (fun a h=>snd_upper h.1)
  (fun es h=>snd_list h.1) (fun es h=>snd_tup h.1) (fun ks es h=>snd_dict X h.2.2) ⟨sndEs_nil,sndB_nil,sndP_nil⟩ (fun a r ha hr=>⟨sndEs_cons ha.1 hr.1,sndB_cons ha.1 ha.2 hr.2.1,sndP_cons ha.1 hr.2.2⟩)
 exact ⟨A,fun ir=>IEs.rec (motive_1:=fun _=>True) (motive_2:=fun ir=>SndEs F ir /\ SndB F ir /\ SndP F ir) (by intros; trivial) (by intros; trivial) (by intros; trivial) (by intros; trivial) (by intros; trivial) (by intros; trivial) (by intros; trivial) trivial
  (by intros; trivial) (by intros; trivial) (by intros; trivial) (by intros; trivial) (by intros; trivial) (by intros; trivial) (by intros; trivial) (by intros; trivial) (by intros; trivial) (by intros; trivial) (by intros; trivial) (by intros; trivial) (by intros; trivial) (by intros; trivial) (by intros; trivial) (by intros; trivial) (by intros; trivial) (by intros; trivial) (by intros; trivial) (by intros; trivial) (by intros; trivial)
  ⟨sndEs_nil,sndB_nil,sndP_nil⟩ (fun a r _ hr=>⟨sndEs_cons (A a).1 hr.1,sndB_cons (A a).1 (A a).2 hr.2.1,sndP_cons (A a).1 hr.2.2⟩) ir⟩
end
theorem funFrames_of {B h:Heap}:∀ {l:List Env},(∀ env ∈ l,env.scope.kind ≠ .module /\ ∃ L o es n,env.frame = some L /\ B.get? L = none /\ h.get? L = some o /\ o.data = .dict es n)->h.FunFrames B l
 | [],_=>trivial
 | e :: r,x=>by
  obtain ⟨h1,L,o,es,n,h2,h3,h4,h5⟩:=x e (.head _)
  exact ⟨h1,⟨L,o,h2,h3,h4,fun vs q=>by rw [h5] at q; cases q⟩,funFrames_of fun e' m=>x e' (.tail _ m)⟩
structure Ex (c:Cx) (L C:Addr) (s0 s':Shared) (e:Addr) (traced:Prop):Prop where
 core:∃ B:Heap,(∀ b o,s0.heap.get? b = some o->b ∉ c.fs->B.get? b = some o) /\ B.StaysIn s'.heap /\ B.get? e = none /\ s'.heap.FunFrames B c.envs /\
  ((¬ traced /\ ∃ t,s'.heap.get? e = some { cls:=.ref C,data:=.fields #[.ref t,.none,.none,.none,.bool false,.none] }) \/ ∃ a0,s'.heap.TracedAtW B e (.ref C) a0 (rawInt L))
 up:∀ b ∈ c.fs,∀ o,s0.heap.get? b = some o->∃ sl,s'.heap.get? b = some { o with slots:=sl }
 fr:FR c s0.heap
 same:∃ h t,s' = { s0 with heap:=h,toks:=t } /\ (c.pos = true->0 < t)
section
variable {c:Cx} {K:Frag} {A:Around} {sc:Scope} {L:Addr} {q:Str} {fa:Addr} {cd:Value} {cs:List (Str × Addr)}
theorem ex_up {CC:Addr} {s0 s':Shared} {e:Addr} {tr:Prop} {h':Heap} (x:Ex c L CC s0 s' e tr) (k:∀ b o,s'.heap.get? b = some o->(∀ vs,o.data ≠ .fields vs)->∃ sl,h'.get? b = some { o with slots:=sl }) :
 ∀ b ∈ c.fs,∀ o,s0.heap.get? b = some o->∃ sl,h'.get? b = some { o with slots:=sl }:=by
 intro b hb o ho
 obtain ⟨sl,h1⟩:=x.up b hb o ho
 obtain ⟨_,o',es,n,g1,g2⟩:=fr_mem x.fr hb
 rw [ho] at g1; cases g1
 obtain ⟨sl',h2⟩:=k b _ h1 fun vs z=>by simp only at z; rw [g2] at z; cases z
 exact ⟨sl',h2⟩
theorem ex_made {CC:Addr} {s:Shared} {sf:Stem} {h':Heap} {e:Addr} (S:Sit c A s sf) (x:Heap.MadeExcOf s.heap h' e (.ref CC) []):Ex c L CC s { s with heap:=h' } e False:=by
 obtain ⟨t,g1,g2,g3⟩:=x.there
 refine ⟨⟨hideAll s.heap c.fs,fun b o hb hm=>hideAll_get _ hb hm,fun b o hb=>x.keeps b o (of_hideAll _ hb),?_,funFrames_of fun env he=>?_,.inl ⟨id,t,g1⟩⟩,fun b hb o ho=>⟨o.slots,x.keeps b o ho⟩,S.fr,_,s.toks,rfl,S.tk⟩
 ·cases z:(hideAll s.heap c.fs).get? e with
  | none=>rfl
  | some o=>have:=of_hideAll _ z; rw [x.new] at this; cases this
 ·obtain ⟨h1,L',o,es,n,h2,h3,h4,h5⟩:=S.fr env he
  exact ⟨h1,L',o,es,n,h2,hideAll_none _ (List.mem_filterMap.mpr ⟨env,he,h2⟩),x.keeps _ _ h4,h5⟩
theorem ex_note {M:Model} {CC:Addr} {s0 s':Shared} {e:Addr} {tr:Prop} {env:Env} {outer:List Env} {Q:Unit->Shared->Prop} {E:PR} (hA:A.frames = some c.envs) (hc:c.envs = env :: outer) (hf:env.frame = some L)
 (x:Ex c L CC s0 s' e tr) (h:∀ s'',Ex c L CC s0 s'' e True->Q () s''):wpAny M A (noteFrame (.ref e) env) Q E s':=by
 obtain ⟨B,b1,b2,b3,b4,b5⟩:=id x.core
 obtain ⟨hh,tt,e1,ht⟩:=x.same
 rcases b5 with ⟨_,t,he⟩ | ⟨a0,ht'⟩
 ·unfold noteFrame
  simp only [hf]
  refine wpAny_bind (wpAny_field he rfl (x:=.none) rfl ?_)
  rw [if_neg (by decide)]
  rw [hc] at b4 hA
  refine wpAny_entryW hA b4 hf he b2 b3 rfl (by simp) rfl fun h' ⟨y1,y2,y3,y4⟩=>h _ ?_
  refine ⟨⟨B,b1,y1,b3,by rw [hc]; exact y2,.inr ⟨_,y3⟩⟩,ex_up x y4,x.fr,h',s'.toks,?_,by rw [e1]; exact ht⟩
  rw [e1]
 ·refine wpAny_noteFrame_againW hf ht' (h _ ⟨⟨B,b1,b2,b3,b4,.inr ⟨a0,ht'⟩⟩,x.up,x.fr,x.same⟩)
theorem traced_held {CC:Addr} {s0 s':Shared} {e:Addr} (x:Ex c L CC s0 s' e True):∃ B a0,(∀ b o,s0.heap.get? b = some o->b ∉ c.fs->B.get? b = some o) /\ Heap.HeldW B c.envs e (.ref CC) a0 L s'.heap:=by
 obtain ⟨B,b1,b2,b3,b4,b5⟩:=id x.core
 rcases b5 with ⟨z,_⟩ | ⟨a0,ht'⟩
 ·exact absurd trivial z
 ·exact ⟨B,a0,b1,b2,b3,b4,ht'⟩
theorem ex_back {M:Model} {CC:Addr} {s0 s':Shared} {e:Addr} {env:Env} {E:PR} (hf:env.frame = some L)
 (x:Ex c L CC s0 s' e True) (h:∀ s'',Ex c L CC s0 s'' e True->E (.ref e) s''):cameBackBy M A env E (.ref e) s':=by
 obtain ⟨B,a0,b1,hh⟩:=traced_held x
 obtain ⟨hh2,tt,e1,ht⟩:=x.same
 unfold cameBackBy
 obtain ⟨b2,b3,b4,ht'⟩:=id hh
 obtain ⟨oe,vs,T,oT,ts,he,hcls,hd,h1,hnT,hTe,hT,hdT,h3⟩:=id ht'
 refine wpAny_bind (wpAny_field he hd h1 ?_)
 rw [if_neg (show ¬ ((Value.ref T == Value.none) = true) from by simp)]
 rw [hf]
 have hsz3:3 < ts.size:=(Array.getElem?_eq_some_iff.mp h3).1
 unfold setFlight
 refine wpAny_bind (wpAny_field he hd h1 ?_)
 rw [if_pos (show (Value.ref T != Value.none) = true from by simp)]
 have other:∀ b,b ≠ T->(s'.heap.update T (Obj.mapFields (·.setIfInBounds 3 ((some L).elim Value.none fun f=>rawInt f)))).get? b = s'.heap.get? b :=
  fun b hb=>Heap.get?_update_other _ _ (Ne.symm hb)
 have noRecord:∀ b o,s'.heap.get? b = some o->(∀ vs,o.data ≠ .fields vs)->b ≠ T:=fun b o hb hnf q=>by
  rw [q,hT] at hb; injection hb with hb; subst hb; exact hnf ts hdT
 refine wpAny_setField hT hdT hsz3 (h _ ⟨⟨B,b1,fun b o hbo=>(other b fun q=>by rw [q,hnT] at hbo; cases hbo).trans (b2 b o hbo),b3,
  b4.of_keeps fun b o hb hnf=>⟨o,(other b (noRecord b o hb hnf)).trans hb,rfl⟩,.inr ⟨a0,?_⟩⟩,ex_up x fun b o hb hnf=>⟨o.slots,(other b (noRecord b o hb hnf)).trans hb⟩,x.fr,_,s'.toks,by rw [e1],by rw [e1]; exact ht⟩)
 exact ⟨oe,vs,T,_,_,(other e (Ne.symm hTe)).trans he,hcls,hd,h1,hnT,hTe,Heap.get?_update_self _ hT (Obj.isFreed_of_fields (Obj.data_mapFields hdT _)),Obj.data_mapFields hdT _,by simp [hsz3]⟩
noncomputable abbrev excM:List Value:=[.type "Exception",.type "BaseException",.type "object"]
def LabAt (H:Heap) (CC:Addr):Prop:=∃ nm N a t u mN,H.get? CC = some (excClassObj nm nm CC N [.type "Exception"] excM true [] [] false none none (some (.ref a)) none (some (.str nm t)) (some (.str nm u)) (some (.bool true)) "Exception.__new__") /\ H.Ns N mN /\ mN "__init__" = none
theorem LabAt.keeps {H h:Heap} {CC:Addr} (x:LabAt H CC) (k:H.StaysIn h):LabAt h CC:=by
 obtain ⟨nm,N,a,t,u,mN,h1,h2,h3⟩:=x
 exact ⟨nm,N,a,t,u,mN,k _ _ h1,h2.keeps k,h3⟩
theorem raise_lab {x:Str} {np cpos pos:Pos} {CC:Addr} {s:Shared} {sf:Stem} {Q:FS} {E:PR} (S:Sit c A s sf) (X:K.In c.H0) (Lb:LabAt c.H0 CC)
 (hk:sc.kind = .function) (hg:glob sc x = true) (e1:nsIn K mainGlobals x = some (some (.ref CC)))
 (h:∀ e s',Ex c L CC s s' e False->E (.ref e) s'):wpAny (MD c) A (exec (.Raise (some (.Call (.Name x np) [] [] cpos)) none pos) (envK q sc L fa cd cs)) Q E s:=by
 obtain ⟨nm,N,a,t,u,mN,h1,h2,h3⟩:=Lb.keeps S.base
 refine wpAny_Raise_call_sub (C:=CC) PySem.F.excBase_Exception S.hd rfl h3 (p_glob (In.here X S) hk hg e1 ⟨rfl,PySem.evalArgs_none ⟨rfl,by simp,h1,h2,fun h' e hm=>h e _ (ex_made S hm)⟩⟩)
theorem caught_lab {x:Str} {np pos p1:Pos} {CC:Addr} {s0 s':Shared} {e:Addr} {tr:Prop} {outer:List Env} {Q:FS} {E:PR} (X:K.In c.H0) (H0s:c.H0.StaysIn s0.heap) (Hn:∀ b o,c.H0.get? b = some o->b ∉ c.fs) (Lb:LabAt c.H0 CC)
 (hA:A.frames = some c.envs) (hc:c.envs = envK q sc L fa cd cs :: outer)
 (hk:sc.kind = .function) (hg:glob sc x = true) (e1:nsIn K mainGlobals x = some (some (.ref CC))) (hx:Ex c L CC s0 s' e tr)
 (h:∀ h' t,(c.pos = true->0 < t)->Step c.fs [] s0.heap h'->Q .next { s0 with heap:=h',toks:=t }) :
 wpAny (MD c) A (noteFrame (.ref e) (envK q sc L fa cd cs)) (fun _ s₂=>wpAny (MD c) A (setFlight (.ref e) none) (fun _ s₃=>wpAny (MD c) A (handleBy (.ref e) (envK q sc L fa cd cs) [.ExceptHandler (some (.Name x np)) none [.Pass p1] pos]) Q E s₃) E s₂) E s':=by
 refine ex_note hA hc rfl hx fun s2 x2=>?_
 obtain ⟨B,a0,b1,hh⟩:=traced_held x2
 refine wpAny_landsW hh fun h3 f3 u3=>?_
 obtain ⟨g2,t2,es2,ht2⟩:=x2.same
 have st3:c.H0.StaysIn h3:=fun b o hb=>f3.1 b o (b1 b o (H0s b o hb) (Hn b o hb))
 obtain ⟨nm,N,a,t,u,mN,h1,_⟩:=Lb.keeps st3
 obtain ⟨ob,hob,hobc⟩:=f3.there
 refine wpAny_handleBy_cons (codeAny_handlers_test (p_glob (X.keeps st3) hk hg e1 ?_)) (by intro z; cases z)
 refine wpAny_excMatches_sub_self h1 hob hobc (by decide +kernel) (codeAny_handlers_suite ?_)
 refine lands_againW f3 fun h6 f6 u6=>?_
 refine wpAny_execs_cons (wpAny_Pass (wpAny_execs_nil ?_))
 have:({ s2 with heap:=h6 }:Shared) = { s0 with heap:=h6,toks:=t2 }:=by rw [es2]
 show Q .next { s2 with heap:=h6 }
 rw [this]
 refine h h6 t2 ht2 ⟨fun b o e m _=>f6.1 b o (b1 b o e m),fun b o e m _=>?_⟩
 obtain ⟨_,o',es,n,y1,y2⟩:=fr_mem hx.fr m
 rw [e] at y1; cases y1
 obtain ⟨sl,y3⟩:=x2.up b m o e
 obtain ⟨sl',y4⟩:=u3 b _ y3 fun vs z=>by simp only at z; rw [y2] at z; cases z
 obtain ⟨sl'',y5⟩:=u6 b _ y4 fun vs z=>by simp only at z; rw [y2] at z; cases z
 exact ⟨sl'',y5⟩
end
noncomputable def sAssign (e:PySem.Stmt):Option (List EX × EX):=Stmt.casesOn (motive_2:=fun _=>Option (List EX × EX)) e (fun _ _ _ _ _ _ _ _ _ _=>none) (fun _ _ _ _ _ _ _ _ _ _=>none) (fun _ _ _ _ _ _ _ _ _ _ _=>none) (fun _ _=>none) (fun _ _=>none) (fun a b p=>some (a,b)) (fun _ _ _ _ _ _ _=>none) (fun _ _ _ _=>none) (fun _ _ _ _ _=>none) (fun _ _ _ _ _=>none) (fun _ _ _ _ _=>none) (fun _ _ _ _=>none) (fun _ _ _ _=>none) (fun _ _ _=>none) (fun _ _ _=>none) (fun _ _ _=>none) (fun _ _ _=>none) (fun _ _ _ _ _=>none) (fun _ _ _ _ _=>none) (fun _ _ _=>none) (fun _ _=>none) (fun _ _ _ _=>none) (fun _ _=>none) (fun _ _=>none) (fun _ _=>none) (fun _=>none) (fun _=>none) (fun _=>none)
theorem sAssign_ok {e:PySem.Stmt} {x:List EX × EX} {G:Prop} (h:sAssign e = some x) (k:∀ p,(e = .Assign x.1 x.2 p)->G):G:=Stmt.casesOn (motive_2:=fun t=>e = t->sAssign t = some x->G) e (fun _ _ _ _ _ _ _ _ _ _ _=>nz) (fun _ _ _ _ _ _ _ _ _ _ _=>nz) (fun _ _ _ _ _ _ _ _ _ _ _ _=>nz) (fun _ _ _=>nz) (fun _ _ _=>nz) (fun a b p he h=>k p (by rw [<- Option.some.inj h]; exact he)) (fun _ _ _ _ _ _ _ _=>nz) (fun _ _ _ _ _=>nz) (fun _ _ _ _ _ _=>nz) (fun _ _ _ _ _ _=>nz) (fun _ _ _ _ _ _=>nz) (fun _ _ _ _ _=>nz) (fun _ _ _ _ _=>nz) (fun _ _ _ _=>nz) (fun _ _ _ _=>nz) (fun _ _ _ _=>nz) (fun _ _ _ _=>nz) (fun _ _ _ _ _ _=>nz) (fun _ _ _ _ _ _=>nz) (fun _ _ _ _=>nz) (fun _ _ _=>nz) (fun _ _ _ _ _=>nz) (fun _ _ _=>nz) (fun _ _ _=>nz) (fun _ _ _=>nz) (fun _ _=>nz) (fun _ _=>nz) (fun _ _=>nz) rfl h
noncomputable def sAug (e:PySem.Stmt):Option (EX × Operator × EX):=Stmt.casesOn (motive_2:=fun _=>Option (EX × Operator × EX)) e (fun _ _ _ _ _ _ _ _ _ _=>none) (fun _ _ _ _ _ _ _ _ _ _=>none) (fun _ _ _ _ _ _ _ _ _ _ _=>none) (fun _ _=>none) (fun _ _=>none) (fun _ _ _=>none) (fun _ _ _ _ _ _ _=>none) (fun a o b p=>some (a,o,b)) (fun _ _ _ _ _=>none) (fun _ _ _ _ _=>none) (fun _ _ _ _ _=>none) (fun _ _ _ _=>none) (fun _ _ _ _=>none) (fun _ _ _=>none) (fun _ _ _=>none) (fun _ _ _=>none) (fun _ _ _=>none) (fun _ _ _ _ _=>none) (fun _ _ _ _ _=>none) (fun _ _ _=>none) (fun _ _=>none) (fun _ _ _ _=>none) (fun _ _=>none) (fun _ _=>none) (fun _ _=>none) (fun _=>none) (fun _=>none) (fun _=>none)
theorem sAug_ok {e:PySem.Stmt} {x:EX × Operator × EX} {G:Prop} (h:sAug e = some x) (k:∀ p,(e = .AugAssign x.1 x.2.1 x.2.2 p)->G):G:=Stmt.casesOn (motive_2:=fun t=>e = t->sAug t = some x->G) e (fun _ _ _ _ _ _ _ _ _ _ _=>nz) (fun _ _ _ _ _ _ _ _ _ _ _=>nz) (fun _ _ _ _ _ _ _ _ _ _ _ _=>nz) (fun _ _ _=>nz) (fun _ _ _=>nz) (fun _ _ _ _=>nz) (fun _ _ _ _ _ _ _ _=>nz) (fun a o b p he h=>k p (by rw [<- Option.some.inj h]; exact he)) (fun _ _ _ _ _ _=>nz) (fun _ _ _ _ _ _=>nz) (fun _ _ _ _ _ _=>nz) (fun _ _ _ _ _=>nz) (fun _ _ _ _ _=>nz) (fun _ _ _ _=>nz) (fun _ _ _ _=>nz) (fun _ _ _ _=>nz) (fun _ _ _ _=>nz) (fun _ _ _ _ _ _=>nz) (fun _ _ _ _ _ _=>nz) (fun _ _ _ _=>nz) (fun _ _ _=>nz) (fun _ _ _ _ _=>nz) (fun _ _ _=>nz) (fun _ _ _=>nz) (fun _ _ _=>nz) (fun _ _=>nz) (fun _ _=>nz) (fun _ _=>nz) rfl h
noncomputable def sIf (e:PySem.Stmt):Option (EX × List PySem.Stmt × List PySem.Stmt):=Stmt.casesOn (motive_2:=fun _=>Option (EX × List PySem.Stmt × List PySem.Stmt)) e (fun _ _ _ _ _ _ _ _ _ _=>none) (fun _ _ _ _ _ _ _ _ _ _=>none) (fun _ _ _ _ _ _ _ _ _ _ _=>none) (fun _ _=>none) (fun _ _=>none) (fun _ _ _=>none) (fun _ _ _ _ _ _ _=>none) (fun _ _ _ _=>none) (fun _ _ _ _ _=>none) (fun _ _ _ _ _=>none) (fun _ _ _ _ _=>none) (fun _ _ _ _=>none) (fun a b d p=>some (a,b,d)) (fun _ _ _=>none) (fun _ _ _=>none) (fun _ _ _=>none) (fun _ _ _=>none) (fun _ _ _ _ _=>none) (fun _ _ _ _ _=>none) (fun _ _ _=>none) (fun _ _=>none) (fun _ _ _ _=>none) (fun _ _=>none) (fun _ _=>none) (fun _ _=>none) (fun _=>none) (fun _=>none) (fun _=>none)
theorem sIf_ok {e:PySem.Stmt} {x:EX × List PySem.Stmt × List PySem.Stmt} {G:Prop} (h:sIf e = some x) (k:∀ p,(e = .If x.1 x.2.1 x.2.2 p)->G):G:=Stmt.casesOn (motive_2:=fun t=>e = t->sIf t = some x->G) e (fun _ _ _ _ _ _ _ _ _ _ _=>nz) (fun _ _ _ _ _ _ _ _ _ _ _=>nz) (fun _ _ _ _ _ _ _ _ _ _ _ _=>nz) (fun _ _ _=>nz) (fun _ _ _=>nz) (fun _ _ _ _=>nz) (fun _ _ _ _ _ _ _ _=>nz) (fun _ _ _ _ _=>nz) (fun _ _ _ _ _ _=>nz) (fun _ _ _ _ _ _=>nz) (fun _ _ _ _ _ _=>nz) (fun _ _ _ _ _=>nz) (fun a b d p he h=>k p (by rw [<- Option.some.inj h]; exact he)) (fun _ _ _ _=>nz) (fun _ _ _ _=>nz) (fun _ _ _ _=>nz) (fun _ _ _ _=>nz) (fun _ _ _ _ _ _=>nz) (fun _ _ _ _ _ _=>nz) (fun _ _ _ _=>nz) (fun _ _ _=>nz) (fun _ _ _ _ _=>nz) (fun _ _ _=>nz) (fun _ _ _=>nz) (fun _ _ _=>nz) (fun _ _=>nz) (fun _ _=>nz) (fun _ _=>nz) rfl h
noncomputable def sWhile (e:PySem.Stmt):Option (EX × List PySem.Stmt × List PySem.Stmt):=Stmt.casesOn (motive_2:=fun _=>Option (EX × List PySem.Stmt × List PySem.Stmt)) e (fun _ _ _ _ _ _ _ _ _ _=>none) (fun _ _ _ _ _ _ _ _ _ _=>none) (fun _ _ _ _ _ _ _ _ _ _ _=>none) (fun _ _=>none) (fun _ _=>none) (fun _ _ _=>none) (fun _ _ _ _ _ _ _=>none) (fun _ _ _ _=>none) (fun _ _ _ _ _=>none) (fun _ _ _ _ _=>none) (fun _ _ _ _ _=>none) (fun a b d p=>some (a,b,d)) (fun _ _ _ _=>none) (fun _ _ _=>none) (fun _ _ _=>none) (fun _ _ _=>none) (fun _ _ _=>none) (fun _ _ _ _ _=>none) (fun _ _ _ _ _=>none) (fun _ _ _=>none) (fun _ _=>none) (fun _ _ _ _=>none) (fun _ _=>none) (fun _ _=>none) (fun _ _=>none) (fun _=>none) (fun _=>none) (fun _=>none)
theorem sWhile_ok {e:PySem.Stmt} {x:EX × List PySem.Stmt × List PySem.Stmt} {G:Prop} (h:sWhile e = some x) (k:∀ p,(e = .While x.1 x.2.1 x.2.2 p)->G):G:=Stmt.casesOn (motive_2:=fun t=>e = t->sWhile t = some x->G) e (fun _ _ _ _ _ _ _ _ _ _ _=>nz) (fun _ _ _ _ _ _ _ _ _ _ _=>nz) (fun _ _ _ _ _ _ _ _ _ _ _ _=>nz) (fun _ _ _=>nz) (fun _ _ _=>nz) (fun _ _ _ _=>nz) (fun _ _ _ _ _ _ _ _=>nz) (fun _ _ _ _ _=>nz) (fun _ _ _ _ _ _=>nz) (fun _ _ _ _ _ _=>nz) (fun _ _ _ _ _ _=>nz) (fun a b d p he h=>k p (by rw [<- Option.some.inj h]; exact he)) (fun _ _ _ _ _=>nz) (fun _ _ _ _=>nz) (fun _ _ _ _=>nz) (fun _ _ _ _=>nz) (fun _ _ _ _=>nz) (fun _ _ _ _ _ _=>nz) (fun _ _ _ _ _ _=>nz) (fun _ _ _ _=>nz) (fun _ _ _=>nz) (fun _ _ _ _ _=>nz) (fun _ _ _=>nz) (fun _ _ _=>nz) (fun _ _ _=>nz) (fun _ _=>nz) (fun _ _=>nz) (fun _ _=>nz) rfl h
noncomputable def sFor (e:PySem.Stmt):Option (EX × EX × List PySem.Stmt × List PySem.Stmt):=Stmt.casesOn (motive_2:=fun _=>Option (EX × EX × List PySem.Stmt × List PySem.Stmt)) e (fun _ _ _ _ _ _ _ _ _ _=>none) (fun _ _ _ _ _ _ _ _ _ _=>none) (fun _ _ _ _ _ _ _ _ _ _ _=>none) (fun _ _=>none) (fun _ _=>none) (fun _ _ _=>none) (fun _ _ _ _ _ _ _=>none) (fun _ _ _ _=>none) (fun _ _ _ _ _=>none) (fun a i b d p=>some (a,i,b,d)) (fun _ _ _ _ _=>none) (fun _ _ _ _=>none) (fun _ _ _ _=>none) (fun _ _ _=>none) (fun _ _ _=>none) (fun _ _ _=>none) (fun _ _ _=>none) (fun _ _ _ _ _=>none) (fun _ _ _ _ _=>none) (fun _ _ _=>none) (fun _ _=>none) (fun _ _ _ _=>none) (fun _ _=>none) (fun _ _=>none) (fun _ _=>none) (fun _=>none) (fun _=>none) (fun _=>none)
theorem sFor_ok {e:PySem.Stmt} {x:EX × EX × List PySem.Stmt × List PySem.Stmt} {G:Prop} (h:sFor e = some x) (k:∀ p,(e = .For x.1 x.2.1 x.2.2.1 x.2.2.2 p)->G):G:=Stmt.casesOn (motive_2:=fun t=>e = t->sFor t = some x->G) e (fun _ _ _ _ _ _ _ _ _ _ _=>nz) (fun _ _ _ _ _ _ _ _ _ _ _=>nz) (fun _ _ _ _ _ _ _ _ _ _ _ _=>nz) (fun _ _ _=>nz) (fun _ _ _=>nz) (fun _ _ _ _=>nz) (fun _ _ _ _ _ _ _ _=>nz) (fun _ _ _ _ _=>nz) (fun _ _ _ _ _ _=>nz) (fun a i b d p he h=>k p (by rw [<- Option.some.inj h]; exact he)) (fun _ _ _ _ _ _=>nz) (fun _ _ _ _ _=>nz) (fun _ _ _ _ _=>nz) (fun _ _ _ _=>nz) (fun _ _ _ _=>nz) (fun _ _ _ _=>nz) (fun _ _ _ _=>nz) (fun _ _ _ _ _ _=>nz) (fun _ _ _ _ _ _=>nz) (fun _ _ _ _=>nz) (fun _ _ _=>nz) (fun _ _ _ _ _=>nz) (fun _ _ _=>nz) (fun _ _ _=>nz) (fun _ _ _=>nz) (fun _ _=>nz) (fun _ _=>nz) (fun _ _=>nz) rfl h
noncomputable def sTry (e:PySem.Stmt):Option (List PySem.Stmt × List PySem.ExceptHandler × List PySem.Stmt × List PySem.Stmt):=Stmt.casesOn (motive_2:=fun _=>Option (List PySem.Stmt × List PySem.ExceptHandler × List PySem.Stmt × List PySem.Stmt)) e (fun _ _ _ _ _ _ _ _ _ _=>none) (fun _ _ _ _ _ _ _ _ _ _=>none) (fun _ _ _ _ _ _ _ _ _ _ _=>none) (fun _ _=>none) (fun _ _=>none) (fun _ _ _=>none) (fun _ _ _ _ _ _ _=>none) (fun _ _ _ _=>none) (fun _ _ _ _ _=>none) (fun _ _ _ _ _=>none) (fun _ _ _ _ _=>none) (fun _ _ _ _=>none) (fun _ _ _ _=>none) (fun _ _ _=>none) (fun _ _ _=>none) (fun _ _ _=>none) (fun _ _ _=>none) (fun a i b d p=>some (a,i,b,d)) (fun _ _ _ _ _=>none) (fun _ _ _=>none) (fun _ _=>none) (fun _ _ _ _=>none) (fun _ _=>none) (fun _ _=>none) (fun _ _=>none) (fun _=>none) (fun _=>none) (fun _=>none)
theorem sTry_ok {e:PySem.Stmt} {x:List PySem.Stmt × List PySem.ExceptHandler × List PySem.Stmt × List PySem.Stmt} {G:Prop} (h:sTry e = some x) (k:∀ p,(e = .Try x.1 x.2.1 x.2.2.1 x.2.2.2 p)->G):G:=Stmt.casesOn (motive_2:=fun t=>e = t->sTry t = some x->G) e (fun _ _ _ _ _ _ _ _ _ _ _=>nz) (fun _ _ _ _ _ _ _ _ _ _ _=>nz) (fun _ _ _ _ _ _ _ _ _ _ _ _=>nz) (fun _ _ _=>nz) (fun _ _ _=>nz) (fun _ _ _ _=>nz) (fun _ _ _ _ _ _ _ _=>nz) (fun _ _ _ _ _=>nz) (fun _ _ _ _ _ _=>nz) (fun _ _ _ _ _ _=>nz) (fun _ _ _ _ _ _=>nz) (fun _ _ _ _ _=>nz) (fun _ _ _ _ _=>nz) (fun _ _ _ _=>nz) (fun _ _ _ _=>nz) (fun _ _ _ _=>nz) (fun _ _ _ _=>nz) (fun a i b d p he h=>k p (by rw [<- Option.some.inj h]; exact he)) (fun _ _ _ _ _ _=>nz) (fun _ _ _ _=>nz) (fun _ _ _=>nz) (fun _ _ _ _ _=>nz) (fun _ _ _=>nz) (fun _ _ _=>nz) (fun _ _ _=>nz) (fun _ _=>nz) (fun _ _=>nz) (fun _ _=>nz) rfl h
noncomputable def sRaise (e:PySem.Stmt):Option (Option EX × Option EX):=Stmt.casesOn (motive_2:=fun _=>Option (Option EX × Option EX)) e (fun _ _ _ _ _ _ _ _ _ _=>none) (fun _ _ _ _ _ _ _ _ _ _=>none) (fun _ _ _ _ _ _ _ _ _ _ _=>none) (fun _ _=>none) (fun _ _=>none) (fun _ _ _=>none) (fun _ _ _ _ _ _ _=>none) (fun _ _ _ _=>none) (fun _ _ _ _ _=>none) (fun _ _ _ _ _=>none) (fun _ _ _ _ _=>none) (fun _ _ _ _=>none) (fun _ _ _ _=>none) (fun _ _ _=>none) (fun _ _ _=>none) (fun _ _ _=>none) (fun a b p=>some (a,b)) (fun _ _ _ _ _=>none) (fun _ _ _ _ _=>none) (fun _ _ _=>none) (fun _ _=>none) (fun _ _ _ _=>none) (fun _ _=>none) (fun _ _=>none) (fun _ _=>none) (fun _=>none) (fun _=>none) (fun _=>none)
theorem sRaise_ok {e:PySem.Stmt} {x:Option EX × Option EX} {G:Prop} (h:sRaise e = some x) (k:∀ p,(e = .Raise x.1 x.2 p)->G):G:=Stmt.casesOn (motive_2:=fun t=>e = t->sRaise t = some x->G) e (fun _ _ _ _ _ _ _ _ _ _ _=>nz) (fun _ _ _ _ _ _ _ _ _ _ _=>nz) (fun _ _ _ _ _ _ _ _ _ _ _ _=>nz) (fun _ _ _=>nz) (fun _ _ _=>nz) (fun _ _ _ _=>nz) (fun _ _ _ _ _ _ _ _=>nz) (fun _ _ _ _ _=>nz) (fun _ _ _ _ _ _=>nz) (fun _ _ _ _ _ _=>nz) (fun _ _ _ _ _ _=>nz) (fun _ _ _ _ _=>nz) (fun _ _ _ _ _=>nz) (fun _ _ _ _=>nz) (fun _ _ _ _=>nz) (fun _ _ _ _=>nz) (fun a b p he h=>k p (by rw [<- Option.some.inj h]; exact he)) (fun _ _ _ _ _ _=>nz) (fun _ _ _ _ _ _=>nz) (fun _ _ _ _=>nz) (fun _ _ _=>nz) (fun _ _ _ _ _=>nz) (fun _ _ _=>nz) (fun _ _ _=>nz) (fun _ _ _=>nz) (fun _ _=>nz) (fun _ _=>nz) (fun _ _=>nz) rfl h
noncomputable def sRet (e:PySem.Stmt):Option (Option EX):=Stmt.casesOn (motive_2:=fun _=>Option (Option EX)) e (fun _ _ _ _ _ _ _ _ _ _=>none) (fun _ _ _ _ _ _ _ _ _ _=>none) (fun _ _ _ _ _ _ _ _ _ _ _=>none) (fun a p=>some a) (fun _ _=>none) (fun _ _ _=>none) (fun _ _ _ _ _ _ _=>none) (fun _ _ _ _=>none) (fun _ _ _ _ _=>none) (fun _ _ _ _ _=>none) (fun _ _ _ _ _=>none) (fun _ _ _ _=>none) (fun _ _ _ _=>none) (fun _ _ _=>none) (fun _ _ _=>none) (fun _ _ _=>none) (fun _ _ _=>none) (fun _ _ _ _ _=>none) (fun _ _ _ _ _=>none) (fun _ _ _=>none) (fun _ _=>none) (fun _ _ _ _=>none) (fun _ _=>none) (fun _ _=>none) (fun _ _=>none) (fun _=>none) (fun _=>none) (fun _=>none)
theorem sRet_ok {e:PySem.Stmt} {x:Option EX} {G:Prop} (h:sRet e = some x) (k:∀ p,(e = .Return x p)->G):G:=Stmt.casesOn (motive_2:=fun t=>e = t->sRet t = some x->G) e (fun _ _ _ _ _ _ _ _ _ _ _=>nz) (fun _ _ _ _ _ _ _ _ _ _ _=>nz) (fun _ _ _ _ _ _ _ _ _ _ _ _=>nz) (fun a p he h=>k p (by rw [<- Option.some.inj h]; exact he)) (fun _ _ _=>nz) (fun _ _ _ _=>nz) (fun _ _ _ _ _ _ _ _=>nz) (fun _ _ _ _ _=>nz) (fun _ _ _ _ _ _=>nz) (fun _ _ _ _ _ _=>nz) (fun _ _ _ _ _ _=>nz) (fun _ _ _ _ _=>nz) (fun _ _ _ _ _=>nz) (fun _ _ _ _=>nz) (fun _ _ _ _=>nz) (fun _ _ _ _=>nz) (fun _ _ _ _=>nz) (fun _ _ _ _ _ _=>nz) (fun _ _ _ _ _ _=>nz) (fun _ _ _ _=>nz) (fun _ _ _=>nz) (fun _ _ _ _ _=>nz) (fun _ _ _=>nz) (fun _ _ _=>nz) (fun _ _ _=>nz) (fun _ _=>nz) (fun _ _=>nz) (fun _ _=>nz) rfl h
noncomputable def sExpr (e:PySem.Stmt):Option (EX):=Stmt.casesOn (motive_2:=fun _=>Option (EX)) e (fun _ _ _ _ _ _ _ _ _ _=>none) (fun _ _ _ _ _ _ _ _ _ _=>none) (fun _ _ _ _ _ _ _ _ _ _ _=>none) (fun _ _=>none) (fun _ _=>none) (fun _ _ _=>none) (fun _ _ _ _ _ _ _=>none) (fun _ _ _ _=>none) (fun _ _ _ _ _=>none) (fun _ _ _ _ _=>none) (fun _ _ _ _ _=>none) (fun _ _ _ _=>none) (fun _ _ _ _=>none) (fun _ _ _=>none) (fun _ _ _=>none) (fun _ _ _=>none) (fun _ _ _=>none) (fun _ _ _ _ _=>none) (fun _ _ _ _ _=>none) (fun _ _ _=>none) (fun _ _=>none) (fun _ _ _ _=>none) (fun _ _=>none) (fun _ _=>none) (fun a p=>some a) (fun _=>none) (fun _=>none) (fun _=>none)
theorem sExpr_ok {e:PySem.Stmt} {x:EX} {G:Prop} (h:sExpr e = some x) (k:∀ p,(e = .Expr x p)->G):G:=Stmt.casesOn (motive_2:=fun t=>e = t->sExpr t = some x->G) e (fun _ _ _ _ _ _ _ _ _ _ _=>nz) (fun _ _ _ _ _ _ _ _ _ _ _=>nz) (fun _ _ _ _ _ _ _ _ _ _ _ _=>nz) (fun _ _ _=>nz) (fun _ _ _=>nz) (fun _ _ _ _=>nz) (fun _ _ _ _ _ _ _ _=>nz) (fun _ _ _ _ _=>nz) (fun _ _ _ _ _ _=>nz) (fun _ _ _ _ _ _=>nz) (fun _ _ _ _ _ _=>nz) (fun _ _ _ _ _=>nz) (fun _ _ _ _ _=>nz) (fun _ _ _ _=>nz) (fun _ _ _ _=>nz) (fun _ _ _ _=>nz) (fun _ _ _ _=>nz) (fun _ _ _ _ _ _=>nz) (fun _ _ _ _ _ _=>nz) (fun _ _ _ _=>nz) (fun _ _ _=>nz) (fun _ _ _ _ _=>nz) (fun _ _ _=>nz) (fun _ _ _=>nz) (fun a p he h=>k p (by rw [<- Option.some.inj h]; exact he)) (fun _ _=>nz) (fun _ _=>nz) (fun _ _=>nz) rfl h
noncomputable def sAssert (e:PySem.Stmt):Option (EX × Option EX):=Stmt.casesOn (motive_2:=fun _=>Option (EX × Option EX)) e (fun _ _ _ _ _ _ _ _ _ _=>none) (fun _ _ _ _ _ _ _ _ _ _=>none) (fun _ _ _ _ _ _ _ _ _ _ _=>none) (fun _ _=>none) (fun _ _=>none) (fun _ _ _=>none) (fun _ _ _ _ _ _ _=>none) (fun _ _ _ _=>none) (fun _ _ _ _ _=>none) (fun _ _ _ _ _=>none) (fun _ _ _ _ _=>none) (fun _ _ _ _=>none) (fun _ _ _ _=>none) (fun _ _ _=>none) (fun _ _ _=>none) (fun _ _ _=>none) (fun _ _ _=>none) (fun _ _ _ _ _=>none) (fun _ _ _ _ _=>none) (fun a b p=>some (a,b)) (fun _ _=>none) (fun _ _ _ _=>none) (fun _ _=>none) (fun _ _=>none) (fun _ _=>none) (fun _=>none) (fun _=>none) (fun _=>none)
theorem sAssert_ok {e:PySem.Stmt} {x:EX × Option EX} {G:Prop} (h:sAssert e = some x) (k:∀ p,(e = .Assert x.1 x.2 p)->G):G:=Stmt.casesOn (motive_2:=fun t=>e = t->sAssert t = some x->G) e (fun _ _ _ _ _ _ _ _ _ _ _=>nz) (fun _ _ _ _ _ _ _ _ _ _ _=>nz) (fun _ _ _ _ _ _ _ _ _ _ _ _=>nz) (fun _ _ _=>nz) (fun _ _ _=>nz) (fun _ _ _ _=>nz) (fun _ _ _ _ _ _ _ _=>nz) (fun _ _ _ _ _=>nz) (fun _ _ _ _ _ _=>nz) (fun _ _ _ _ _ _=>nz) (fun _ _ _ _ _ _=>nz) (fun _ _ _ _ _=>nz) (fun _ _ _ _ _=>nz) (fun _ _ _ _=>nz) (fun _ _ _ _=>nz) (fun _ _ _ _=>nz) (fun _ _ _ _=>nz) (fun _ _ _ _ _ _=>nz) (fun _ _ _ _ _ _=>nz) (fun a b p he h=>k p (by rw [<- Option.some.inj h]; exact he)) (fun _ _ _=>nz) (fun _ _ _ _ _=>nz) (fun _ _ _=>nz) (fun _ _ _=>nz) (fun _ _ _=>nz) (fun _ _=>nz) (fun _ _=>nz) (fun _ _=>nz) rfl h
noncomputable def sBrk (e:PySem.Stmt):Option (Pos):=Stmt.casesOn (motive_2:=fun _=>Option (Pos)) e (fun _ _ _ _ _ _ _ _ _ _=>none) (fun _ _ _ _ _ _ _ _ _ _=>none) (fun _ _ _ _ _ _ _ _ _ _ _=>none) (fun _ _=>none) (fun _ _=>none) (fun _ _ _=>none) (fun _ _ _ _ _ _ _=>none) (fun _ _ _ _=>none) (fun _ _ _ _ _=>none) (fun _ _ _ _ _=>none) (fun _ _ _ _ _=>none) (fun _ _ _ _=>none) (fun _ _ _ _=>none) (fun _ _ _=>none) (fun _ _ _=>none) (fun _ _ _=>none) (fun _ _ _=>none) (fun _ _ _ _ _=>none) (fun _ _ _ _ _=>none) (fun _ _ _=>none) (fun _ _=>none) (fun _ _ _ _=>none) (fun _ _=>none) (fun _ _=>none) (fun _ _=>none) (fun _=>none) (fun p=>some p) (fun _=>none)
theorem sBrk_ok {e:PySem.Stmt} {x:Pos} {G:Prop} (h:sBrk e = some x) (k:(e = .Break x)->G):G:=Stmt.casesOn (motive_2:=fun t=>e = t->sBrk t = some x->G) e (fun _ _ _ _ _ _ _ _ _ _ _=>nz) (fun _ _ _ _ _ _ _ _ _ _ _=>nz) (fun _ _ _ _ _ _ _ _ _ _ _ _=>nz) (fun _ _ _=>nz) (fun _ _ _=>nz) (fun _ _ _ _=>nz) (fun _ _ _ _ _ _ _ _=>nz) (fun _ _ _ _ _=>nz) (fun _ _ _ _ _ _=>nz) (fun _ _ _ _ _ _=>nz) (fun _ _ _ _ _ _=>nz) (fun _ _ _ _ _=>nz) (fun _ _ _ _ _=>nz) (fun _ _ _ _=>nz) (fun _ _ _ _=>nz) (fun _ _ _ _=>nz) (fun _ _ _ _=>nz) (fun _ _ _ _ _ _=>nz) (fun _ _ _ _ _ _=>nz) (fun _ _ _ _=>nz) (fun _ _ _=>nz) (fun _ _ _ _ _=>nz) (fun _ _ _=>nz) (fun _ _ _=>nz) (fun _ _ _=>nz) (fun _ _=>nz) (fun p he h=>k  (by rw [<- Option.some.inj h]; exact he)) (fun _ _=>nz) rfl h
noncomputable def sCont (e:PySem.Stmt):Option (Pos):=Stmt.casesOn (motive_2:=fun _=>Option (Pos)) e (fun _ _ _ _ _ _ _ _ _ _=>none) (fun _ _ _ _ _ _ _ _ _ _=>none) (fun _ _ _ _ _ _ _ _ _ _ _=>none) (fun _ _=>none) (fun _ _=>none) (fun _ _ _=>none) (fun _ _ _ _ _ _ _=>none) (fun _ _ _ _=>none) (fun _ _ _ _ _=>none) (fun _ _ _ _ _=>none) (fun _ _ _ _ _=>none) (fun _ _ _ _=>none) (fun _ _ _ _=>none) (fun _ _ _=>none) (fun _ _ _=>none) (fun _ _ _=>none) (fun _ _ _=>none) (fun _ _ _ _ _=>none) (fun _ _ _ _ _=>none) (fun _ _ _=>none) (fun _ _=>none) (fun _ _ _ _=>none) (fun _ _=>none) (fun _ _=>none) (fun _ _=>none) (fun _=>none) (fun _=>none) (fun p=>some p)
theorem sCont_ok {e:PySem.Stmt} {x:Pos} {G:Prop} (h:sCont e = some x) (k:(e = .Continue x)->G):G:=Stmt.casesOn (motive_2:=fun t=>e = t->sCont t = some x->G) e (fun _ _ _ _ _ _ _ _ _ _ _=>nz) (fun _ _ _ _ _ _ _ _ _ _ _=>nz) (fun _ _ _ _ _ _ _ _ _ _ _ _=>nz) (fun _ _ _=>nz) (fun _ _ _=>nz) (fun _ _ _ _=>nz) (fun _ _ _ _ _ _ _ _=>nz) (fun _ _ _ _ _=>nz) (fun _ _ _ _ _ _=>nz) (fun _ _ _ _ _ _=>nz) (fun _ _ _ _ _ _=>nz) (fun _ _ _ _ _=>nz) (fun _ _ _ _ _=>nz) (fun _ _ _ _=>nz) (fun _ _ _ _=>nz) (fun _ _ _ _=>nz) (fun _ _ _ _=>nz) (fun _ _ _ _ _ _=>nz) (fun _ _ _ _ _ _=>nz) (fun _ _ _ _=>nz) (fun _ _ _=>nz) (fun _ _ _ _ _=>nz) (fun _ _ _=>nz) (fun _ _ _=>nz) (fun _ _ _=>nz) (fun _ _=>nz) (fun _ _=>nz) (fun p he h=>k  (by rw [<- Option.some.inj h]; exact he)) rfl h
noncomputable def sPass (e:PySem.Stmt):Option (Pos):=Stmt.casesOn (motive_2:=fun _=>Option (Pos)) e (fun _ _ _ _ _ _ _ _ _ _=>none) (fun _ _ _ _ _ _ _ _ _ _=>none) (fun _ _ _ _ _ _ _ _ _ _ _=>none) (fun _ _=>none) (fun _ _=>none) (fun _ _ _=>none) (fun _ _ _ _ _ _ _=>none) (fun _ _ _ _=>none) (fun _ _ _ _ _=>none) (fun _ _ _ _ _=>none) (fun _ _ _ _ _=>none) (fun _ _ _ _=>none) (fun _ _ _ _=>none) (fun _ _ _=>none) (fun _ _ _=>none) (fun _ _ _=>none) (fun _ _ _=>none) (fun _ _ _ _ _=>none) (fun _ _ _ _ _=>none) (fun _ _ _=>none) (fun _ _=>none) (fun _ _ _ _=>none) (fun _ _=>none) (fun _ _=>none) (fun _ _=>none) (fun p=>some p) (fun _=>none) (fun _=>none)
theorem sPass_ok {e:PySem.Stmt} {x:Pos} {G:Prop} (h:sPass e = some x) (k:(e = .Pass x)->G):G:=Stmt.casesOn (motive_2:=fun t=>e = t->sPass t = some x->G) e (fun _ _ _ _ _ _ _ _ _ _ _=>nz) (fun _ _ _ _ _ _ _ _ _ _ _=>nz) (fun _ _ _ _ _ _ _ _ _ _ _ _=>nz) (fun _ _ _=>nz) (fun _ _ _=>nz) (fun _ _ _ _=>nz) (fun _ _ _ _ _ _ _ _=>nz) (fun _ _ _ _ _=>nz) (fun _ _ _ _ _ _=>nz) (fun _ _ _ _ _ _=>nz) (fun _ _ _ _ _ _=>nz) (fun _ _ _ _ _=>nz) (fun _ _ _ _ _=>nz) (fun _ _ _ _=>nz) (fun _ _ _ _=>nz) (fun _ _ _ _=>nz) (fun _ _ _ _=>nz) (fun _ _ _ _ _ _=>nz) (fun _ _ _ _ _ _=>nz) (fun _ _ _ _=>nz) (fun _ _ _=>nz) (fun _ _ _ _ _=>nz) (fun _ _ _=>nz) (fun _ _ _=>nz) (fun _ _ _=>nz) (fun p he h=>k  (by rw [<- Option.some.inj h]; exact he)) (fun _ _=>nz) (fun _ _=>nz) rfl h
noncomputable def tame (e:EX):Bool:=Expr.casesOn (motive_1:=fun _=>Bool) e (fun _ _ _=>true) (fun _ _ _=>true) (fun _ _ _ _=>true) (fun _ _ _=>true) (fun _ _ _ _=>true) (fun _ _ _ _=>true) (fun _ _ _=>true) (fun _ _ _=>false) (fun _ _ _ _=>false) (fun _ _ _ _=>false) (fun _ _ _ _ _=>false) (fun _ _ _ _=>false) (fun _ _=>true) (fun _ _=>true) (fun _ _=>true) (fun _ _ _ _=>true) (fun _ _ _ _=>true) (fun _ _ _ _=>true) (fun _ _=>true) (fun _ _ _=>true) (fun _ _ _=>true) (fun _ _ _=>true) (fun _ _=>false) (fun _ _=>true) (fun _ _=>true) (fun _ _ _=>true) (fun _ _ _ _=>true)
theorem swaps_no {e:EX} {t:Option EX} {n:Nat} {env:Env} (h:tame e = true):swapsWith e t n env = pure false:=Expr.casesOn (motive_1:=fun e=>tame e = true->swapsWith e t n env = pure false) e (fun _ _ _ _=>rfl) (fun _ _ _ _=>rfl) (fun _ _ _ _ _=>rfl) (fun _ _ _ _=>rfl) (fun _ _ _ _ _=>rfl) (fun _ _ _ _ _=>rfl) (fun _ _ _ _=>rfl) (fun _ _ _ h=>absurd h fT) (fun _ _ _ _ h=>absurd h fT) (fun _ _ _ _ h=>absurd h fT) (fun _ _ _ _ _ h=>absurd h fT) (fun _ _ _ _ h=>absurd h fT) (fun _ _ _=>rfl) (fun _ _ _=>rfl) (fun _ _ _=>rfl) (fun _ _ _ _ _=>rfl) (fun _ _ _ _ _=>rfl) (fun _ _ _ _ _=>rfl) (fun _ _ _=>rfl) (fun _ _ _ _=>rfl) (fun _ _ _ _=>rfl) (fun _ _ _ _=>rfl) (fun _ _ h=>absurd h fT) (fun _ _ _=>rfl) (fun _ _ _=>rfl) (fun _ _ _ _=>rfl) (fun _ _ _ _ _=>rfl) h
theorem folded_no {e:EX} {env:Env} {x:Value} (h:tame e = true):foldedSetIterable e env x = pure x:=Expr.casesOn (motive_1:=fun e=>tame e = true->foldedSetIterable e env x = pure x) e (fun _ _ _ _=>rfl) (fun _ _ _ _=>rfl) (fun _ _ _ _ _=>rfl) (fun _ _ _ _=>rfl) (fun _ _ _ _ _=>rfl) (fun _ _ _ _ _=>rfl) (fun _ _ _ _=>rfl) (fun _ _ _ h=>absurd h fT) (fun _ _ _ _ h=>absurd h fT) (fun _ _ _ _ h=>absurd h fT) (fun _ _ _ _ _ h=>absurd h fT) (fun _ _ _ _ h=>absurd h fT) (fun _ _ _=>rfl) (fun _ _ _=>rfl) (fun _ _ _=>rfl) (fun _ _ _ _ _=>rfl) (fun _ _ _ _ _=>rfl) (fun _ _ _ _ _=>rfl) (fun _ _ _=>rfl) (fun _ _ _ _=>rfl) (fun _ _ _ _=>rfl) (fun _ _ _ _=>rfl) (fun _ _ h=>absurd h fT) (fun _ _ _=>rfl) (fun _ _ _=>rfl) (fun _ _ _ _=>rfl) (fun _ _ _ _ _=>rfl) h
noncomputable def v3 {α:Type} (l:List α):Option (α × α × α):=match l with
 | [a,b,d]=>some (a,b,d)
 | _=>none
theorem v3_ok {α:Type} {l:List α} {a:α × α × α} (h:v3 l = some a):l = [a.1,a.2.1,a.2.2]:=match l,h with
 | [b,d,e],h=>by rw [<- Option.some.inj h]
noncomputable def strOk (t:T) (e:EX):Bool:=opt (vConst e) (conOk (.str t)) && decide (t.length <= 10)
noncomputable def pairsOk:List (T × T)->List EX->Bool
 | [],l=>l.isEmpty
 | p :: ps,l=>opt (vCons l) fun x=>opt (vTup x.1) (fun u=>opt (v2 u.1) fun y=>strOk p.1 y.1 && strOk p.2 y.2) && pairsOk ps x.2
noncomputable def tgt1 (sc:Scope) (i:Nat) (l:List EX):Bool:=opt (v1 l) fun t=>opt (vName t) (isLoc sc i)
noncomputable def tgtF (sc:Scope) (i:Nat) (f:Fld) (t:EX):Bool:=opt (vAttr t) fun a=>opt (vName a.1) (isLoc sc i) && a.2.1 == fname f
noncomputable def tgt2 (sc:Scope) (i j:Nat) (t:EX):Bool:=opt (vTup t) fun u=>opt (v2 u.1) fun n=>opt (vName n.1) (isLoc sc i) && opt (vName n.2) (isLoc sc j)
noncomputable def tgt3 (sc:Scope) (i j k:Nat) (l:List EX):Bool:=opt (v1 l) fun t=>opt (vTup t) fun u=>opt (v3 u.1) fun n=>opt (vName n.1) (isLoc sc i) && opt (vName n.2.1) (isLoc sc j) && opt (vName n.2.2) (isLoc sc k) &&
 n.2.1.pos.line == n.1.pos.line && n.2.2.pos.line == n.1.pos.line
noncomputable def isNum (n:Int) (e:IE):Bool:=match e with
 | .con v=>conOk v (.int n)
 | _=>false
noncomputable def rngOk (sc:Scope) (a b d:IE) (l:List EX):Bool:=match l with
 | [_]=>isNum 0 a && isNum 1 d && chkEs sc (.cons b .nil) l
 | [_,_]=>isNum 1 d && chkEs sc (.cons a (.cons b .nil)) l
 | _=>chkEs sc (.cons a (.cons b (.cons d .nil))) l
noncomputable def hdlOk (sc:Scope) (n:Str) (l:List PySem.ExceptHandler):Bool:=match l with
 | [.ExceptHandler o m b _]=>opt o (fun e=>opt (vName e) (isGlob sc n)) && m.isNone && opt (v1 b) fun p=>opt (sPass p) fun _=>true
 | _=>false
noncomputable def ttR (sc:Scope) (es:IEs) (x:EX):Bool:=opt (vTup x) fun u=>opt (v3 u.1) (fun x=>!isStar x.1 && !isStar x.2.1 && !isStar x.2.2) && !(u.1.all (foldedForSure 8)) && !(u.1.all (constantsAlone 8)) && chkEs sc es u.1
mutual
noncomputable def chkS (sc:Scope):IS->PySem.Stmt->Bool
 | .asgn i e,s=>opt (sAssign s) fun p=>tgt1 sc i p.1 && tame p.2 && chkE sc e p.2
 | .asgnF i f e,s=>opt (sAssign s) fun p=>opt (v1 p.1) (tgtF sc i f) && tame p.2 && chkE sc e p.2
 | .asgnT is e,s=>opt (sAssign s) fun p=>opt (v2 is) fun j=>opt (v1 p.1) (tgt2 sc j.1 j.2) && (vCall p.2).isSome && tame p.2 && chkE sc e p.2
 | .asgnTT is es,s=>opt (sAssign s) fun p=>opt (v3 is) fun j=>tgt3 sc j.1 j.2.1 j.2.2 p.1 && (decide (j.1 ≠ j.2.1) && decide (j.1 ≠ j.2.2) && decide (j.2.1 ≠ j.2.2)) && ttR sc es p.2
 | .augL i op e,s=>opt (sAug s) fun p=>opt (vName p.1) (isLoc sc i) && p.2.1 == op && chkE sc e p.2.2
 | .augF i f op e,s=>opt (sAug s) fun p=>tgtF sc i f p.1 && p.2.1 == op && chkE sc e p.2.2
 | .ite d a b,s=>opt (sIf s) fun p=>chkE sc d p.1 && chkSs sc a p.2.1 && chkSs sc b p.2.2
 | .whl d b,s=>opt (sWhile s) fun p=>chkE sc d p.1 && chkSs sc b p.2.1 && p.2.2.isEmpty
 | .forR i a b d body,s=>opt (sFor s) fun p=>opt (vName p.1) (isLoc sc i) && bltOk sc "range" (rngOk sc a b d) p.2.1 && chkSs sc body p.2.2.1 && p.2.2.2.isEmpty
 | .forL i e body,s=>opt (sFor s) fun p=>opt (vName p.1) (isLoc sc i) && tame p.2.1 && chkE sc e p.2.1 && chkSs sc body p.2.2.1 && p.2.2.2.isEmpty
 | .forRepl w i j ps,s=>opt (sFor s) fun p=>tgt2 sc i j p.1 && opt (vTup p.2.1) (fun u=>pairsOk ps u.1) && opt (v1 p.2.2.1) (fun b=>opt (sAssign b) fun q=>tgt1 sc w q.1 &&
  metOk "replace" (fun o=>opt (vName o) (isLoc sc w)) (fun xs=>opt (v2 xs) fun x=>opt (vName x.1) (isLoc sc i) && opt (vName x.2) (isLoc sc j)) q.2) && p.2.2.2.isEmpty && decide (i ≠ j) && decide (j ≠ w) && decide (i ≠ w) && decide (ps.length <= 1000)
 | .try_ b k,s=>opt (sTry s) fun p=>chkSs sc b p.1 && hdlOk sc (lnm k) p.2.1 && p.2.2.1.isEmpty && p.2.2.2.isEmpty
 | .raise k,s=>opt (sRaise s) fun p=>opt p.1 (bltOk sc (lnm k) (·.isEmpty)) && p.2.isNone
 | .ret e,s=>opt (sRet s) fun o=>opt o (chkE sc e)
 | .brk,s=>opt (sBrk s) fun _=>true
 | .cont,s=>opt (sCont s) fun _=>true
 | .pass,_=>false
 | .expr e,s=>opt (sExpr s) fun x=>tame x && chkE sc e x
 | .assert e,s=>opt (sAssert s) fun p=>chkE sc e p.1 && p.2.isNone
noncomputable def chkSs (sc:Scope):ISs->List PySem.Stmt->Bool
 | .nil,es=>es.isEmpty
 | .cons a r,es=>opt (vCons es) fun p=>chkS sc a p.1 && chkSs sc r p.2
end
structure ActS (F:Fx) (labC:Lab->Addr) (outer:List Env):Prop extends Act F where
 hc:F.c.envs = F.env :: outer
 lab:∀ k,nsIn F.K mainGlobals (lnm k) = some (some (.ref (labC k))) /\ LabAt F.c.H0 (labC k)
structure Fx.Go (F:Fx) (s s':Shared) (m:SV) (l:Lc) (sf:Stem):Prop where
 st:F.St s' m l sf
 to:Step F.c.fs (F.L :: F.c.ds) s.heap s'.heap
def Post (F:Fx) (labC:Lab->Addr) (s:Shared) (fl:FL) (l:Lc) (sf:Stem) (Q:FS) (E:PR):Prop:=match fl with
 | .next=>∀ s' m,F.Go s s' m l sf->Q .next s'
 | .brk=>∀ s' m,F.Go s s' m l sf->Q .brk s'
 | .cont=>∀ s' m,F.Go s s' m l sf->Q .cont s'
 | .ret v=>∀ s' m y,F.Go s s' m l sf->VR F.c s'.heap v y->Q (.ret y) s'
 | .exc k=>∀ s0 m s' e tr,F.Go s s0 m l sf->Ex F.c F.L (labC k) s0 s' e tr->E (.ref e) s'
def OutS (F:Fx) (labC:Lab->Addr) (s:Shared) (P:QS) (Q:FS) (E:PR):Prop:=∀ fl l sf,P fl l sf->Post F labC s fl l sf Q E
def SndS (F:Fx) (labC:Lab->Addr) (ir:IS):Prop:=∀ e,chkS F.sc ir e = true->∀ n m l s sf (P:QS) (Q:FS) (E:PR),F.St s m l sf->wpS F.C n ir l sf P->OutS F labC s P Q E->wpAny F.M F.A (exec e F.env) Q E s
def SndSs (F:Fx) (labC:Lab->Addr) (ir:ISs):Prop:=∀ e,chkSs F.sc ir e = true->∀ n m l s sf (P:QS) (Q:FS) (E:PR),F.St s m l sf->wpSs F.C n ir l sf P->OutS F labC s P Q E->wpAny F.M F.A (execs e F.env) Q E s
section
variable {F:Fx} {labC:Lab->Addr} {outer:List Env}
theorem Fx.Go.refl {s:Shared} {m:SV} {l:Lc} {sf:Stem} (S:F.St s m l sf):F.Go s s m l sf:=⟨S,Step.refl ..⟩
theorem Fx.To.go {s s':Shared} {m:SV} {l:Lc} {sf:Stem} (T:F.To s m l s' sf):F.Go s s' m l sf:=⟨T.st,T.to.wide fun _ q=>.tail _ q⟩
theorem Fx.Go.after {s s1 s2:Shared} {m m1:SV} {l l1:Lc} {sf sf1:Stem} (G:F.Go s s1 m1 l1 sf1) (H:F.Go s1 s2 m l sf):F.Go s s2 m l sf:=⟨H.st,G.to.trans H.to⟩
theorem Post.after {s s1:Shared} {fl:FL} {m1:SV} {l l1:Lc} {sf sf1:Stem} {Q:FS} {E:PR} (p:Post F labC s fl l sf Q E) (G:F.Go s s1 m1 l1 sf1):Post F labC s1 fl l sf Q E:=by
 cases fl with
 | next=>exact fun s' m a=>p s' m (G.after a)
 | brk=>exact fun s' m a=>p s' m (G.after a)
 | cont=>exact fun s' m a=>p s' m (G.after a)
 | ret v=>exact fun s' m y a r=>p s' m y (G.after a) r
 | exc k=>exact fun s0 m s' e tr a x=>p s0 m s' e tr (G.after a) x
theorem OutS.after {s s1:Shared} {P:QS} {m1:SV} {l1:Lc} {sf1:Stem} {Q:FS} {E:PR} (h:OutS F labC s P Q E) (G:F.Go s s1 m1 l1 sf1):OutS F labC s1 P Q E:=fun fl l sf hp=>(h fl l sf hp).after G
theorem Go.mut {s:Shared} {m:SV} {l:Lc} {sf:Stem} (S:F.St s m l sf):∀ a,a ∈ F.c.fs \/ a ∈ F.L :: F.c.ds->F.c.mut a:=fun a z=>by
 rcases z with z | z
 ·exact .inl z
 ·rcases List.mem_cons.mp z with e | z
  ·rw [e]; exact .inl S.inL
  ·exact .inr z
theorem p_store {x:Str} {i:Nat} {v:V} {y:Value} {m:SV} {l:Lc} {s:Shared} {sf:Stem} {Q:Unit->Shared->Prop} {E:PR} (X:Act F) (S:F.St s m l sf) (hx:isLoc F.sc i x = true) (r:VR F.c s.heap v y)
 (h:∀ s',F.Go s s' (fun z=>if z = x then some y else m z) (l.set i (some v)) sf->Q () s'):wpAny F.M F.A (storeName F.env x y) Q E s:=by
 obtain ⟨h1,h2,h3⟩:=loc_spec hx
 refine wpAny_storeName_local h1 S.ns (fun h' hn hs=>h _ ⟨S.store hn hs h3 X.hu r fun _=>Nat.succ_pos _,Step.sameBut hs (.head _)⟩) ?_
 show (F.sc.kind == .class || (F.sc.kind == .module && F.L != mainGlobals)) = false
 rw [X.hk]; rfl
theorem sndS_asgn {i:Nat} {e:IE} (X:ActS F labC outer):SndS F labC (.asgn i e):=by
 intro st h n m l s sf P Q E S hw hq
 obtain ⟨⟨ts,x⟩,hp,h⟩:=opt_inv h
 obtain ⟨h,h1⟩:=and_inv h
 obtain ⟨h,h2⟩:=and_inv h
 obtain ⟨t,ht,h⟩:=opt_inv h
 refine sAssign_ok hp fun pos he=>name_isLoc h fun y p hy hi=>?_
 rw [he,show ts = [t] from v1_ok ht,hy]
 refine wpAny_Assign_Name (((sndAll X.toAct).1 e).1 x h1 m l s sf _ _ E S hw fun v s1 y t1 hp T1 r1=>?_) (swaps_no h2)
 exact p_store X.toAct T1.st hi r1 fun t2 G=>hq _ _ _ hp t2 _ (T1.go.after G)
theorem hst1 {o:EX} {a:Str} {p:Pos} {e:EX} {env:Env}:swappedStores [.Attribute o a p] e env = pure none:=by unfold swappedStores; rfl
theorem hsw1 {o:EX} {e:EX} {n:Nat} {env:Env}:swapsWithSole [o] e n env = swapsWith e (some o) n env:=rfl
theorem p_setG {x d:Addr} {f:Fld} {v:V} {y:Value} {m:SV} {l:Lc} {s:Shared} {sf:Stem} {P:Stem->Prop} {Q:Unit->Shared->Prop} {E:PR} (X:Act F) (S:F.St s m l sf) (hs:F.c.slf = some (x,d)) (r:VR F.c s.heap v y) (hv:setN sf f v P)
 (h:∀ sf' s',P sf'->F.To s m l s' sf'->Q () s'):wpAny F.M F.A (setAttr (.ref x) (fname f) y) Q E s:=by
 obtain ⟨sf',hp,hf,h1,h2⟩:=setN_inv hv
 have r':FV v y:=by
  rcases hf with ⟨n,rfl⟩ | ⟨n,rfl⟩
  ·obtain ⟨t,rfl⟩:=r.int_inv; exact .int n t
  ·obtain ⟨t,rfl,hl⟩:=r.str_inv; exact .str n t hl
 exact p_setF X.O X.X S hs r' h1 h2 fun h' t st S'=>h sf' _ hp ⟨S',st⟩
theorem sndS_asgnF {i:Nat} {f:Fld} {e:IE} (X:ActS F labC outer):SndS F labC (.asgnF i f e):=by
 intro st h n m l s sf P Q E S hw hq
 obtain ⟨⟨ts,x⟩,hp,h⟩:=opt_inv h
 obtain ⟨h,h1⟩:=and_inv h
 obtain ⟨h,h2⟩:=and_inv h
 obtain ⟨t,ht,h⟩:=opt_inv h
 refine sAssign_ok hp fun pos he=>attr_loc h fun y p p2 hy hi=>?_
 rw [he,show ts = [t] from v1_ok ht,hy]
 obtain ⟨v,hl,hw⟩:=wOpt_inv hw
 obtain ⟨rfl,hw⟩:=slfK_inv hw
 rw [arm_exec_Assign]
 refine wpAny_bind (wpAny_standAt ?_)
 rw [hsw1,swaps_no h2]
 refine wpAny_bind (wpAny_pure ?_)
 rw [if_neg fT]
 refine wpAny_bind (((sndAll X.toAct).1 e).1 x h1 m l s sf _ _ E S hw fun v s1 yv t1 hp T1 r1=>?_)
 rw [hst1]
 refine wpAny_bind (wpAny_pure ?_)
 show wpAny F.M F.A (do assign (.Attribute (.Name y p) (fname f) p2) F.env yv; pure .next) Q E t1
 rw [arm_assign_Attribute]
 refine wpAny_bind (wpAny_bind (wpAny_holding (p_loc T1.st X.hk hi hl fun z _ rz=>?_)))
 cases rz with
 | self hx =>
  refine wpAny_bind (wpAny_standAt (wpAny_bind (wpAny_holding (p_setG X.toAct T1.st hx r1 hp fun sf' s' hp T2=>?_))))
  exact wpAny_release' (wpAny_pure (hq _ _ _ hp s' _ (T1.trans T2).go))
theorem sndS_augL {i:Nat} {op:Operator} {e:IE} (X:ActS F labC outer):SndS F labC (.augL i op e):=by
 intro st h n m l s sf P Q E S hw hq
 obtain ⟨⟨t,o,x⟩,hp,h⟩:=opt_inv h
 obtain ⟨h,h1⟩:=and_inv h
 obtain ⟨h3,h2⟩:=and_inv h
 cases beq_iff_eq.mp h2
 refine sAug_ok hp fun pos he=>name_isLoc h3 fun y p hy hi=>?_
 rw [he,show t = _ from hy]
 obtain ⟨a,ea,hw⟩:=wOpt_inv hw
 obtain ⟨g1,g2,g3⟩:=loc_spec hi
 obtain ⟨y0,e0,r0⟩:=S.get g3 ea
 refine wpAny_AugAssign_Name (wpAny_loadName_local X.hk g1 S.ns e0 ?_)
 refine ((sndAll X.toAct).1 e).1 x h1 m l s sf _ _ E S hw fun v s1 yv t1 hp T1 r1=>?_
 refine p_aug T1.st.toSit (T1.up r0) r1 hp fun u hu z h' t st r ht=>?_
 have T2:=Fx.To.keep T1.st st ht
 exact p_store X.toAct T2.st hi r fun t2 G=>hq _ _ _ hu t2 _ ((T1.trans T2).go.after G)
theorem sndS_augF {i:Nat} {f:Fld} {op:Operator} {e:IE} (X:ActS F labC outer):SndS F labC (.augF i f op e):=by
 intro st h n m l s sf P Q E S hw hq
 obtain ⟨⟨t,o,x⟩,hp,h⟩:=opt_inv h
 obtain ⟨h,h1⟩:=and_inv h
 obtain ⟨h3,h2⟩:=and_inv h
 cases beq_iff_eq.mp h2
 refine sAug_ok hp fun pos he=>attr_loc h3 fun y p p2 hy hi=>?_
 rw [he,show t = _ from hy]
 obtain ⟨a,ea,hw⟩:=wOpt_inv hw
 obtain ⟨rfl,hw⟩:=slfK_inv hw
 obtain ⟨w,ew,hw⟩:=getN_inv hw
 refine wpAny_AugAssign_AttributeAny (p_loc S X.hk hi ea fun z _ rz=>?_)
 cases rz with
 | self hx =>
  refine p_getF X.O X.X S.toSit hx ew fun y0 r0=>?_
  have T0:=Fx.To.tok S (s.toks + 1) fun _=>Nat.succ_pos _
  refine ((sndAll X.toAct).1 e).1 x h1 m l _ sf _ _ E T0.st hw fun v s1 yv t1 hp T1 r1=>?_
  refine p_aug T1.st.toSit r0.vr r1 hp fun u hu z h' t st r ht=>?_
  have T2:=Fx.To.keep T1.st st ht
  exact p_setG X.toAct T2.st hx r hu fun sf' s' hp T3=>hq _ _ _ hp s' _ (((T0.trans T1).trans T2).trans T3).go
theorem sndS_ret {e:IE} (X:ActS F labC outer):SndS F labC (.ret e):=by
 intro st h n m l s sf P Q E S hw hq
 obtain ⟨o,hp,h⟩:=opt_inv h
 obtain ⟨x,hx,h⟩:=opt_inv h
 refine sRet_ok hp fun pos he=>?_
 rw [he,hx]
 exact wpAny_Return_some (((sndAll X.toAct).1 e).1 x h m l s sf _ _ E S hw fun v s1 yv t1 hp T1 r1=>hq _ _ _ hp t1 _ yv T1.go r1)
theorem sndS_expr {e:IE} (X:ActS F labC outer):SndS F labC (.expr e):=by
 intro st h n m l s sf P Q E S hw hq
 obtain ⟨x,hp,h⟩:=opt_inv h
 obtain ⟨h1,h2⟩:=and_inv h
 refine sExpr_ok hp fun pos he=>?_
 rw [he]
 refine wpAny_Expr (((sndAll X.toAct).1 e).1 x h2 m l s sf _ _ E S hw fun v s1 yv t1 hp T1 r1=>?_) (by unfold interactive; show (F.sc.kind == .module && _) = false; rw [X.hk]; rfl) (swaps_no h1)
 have go:flat v = true->P .next l s1->Q .next t1:=fun _ hp=>hq _ _ _ hp t1 _ T1.go
 cases v with
 | none=>cases r1; exact go rfl hp
 | bool b=>cases r1; exact go rfl hp
 | int b=>obtain ⟨t,rfl⟩:=r1.int_inv; exact go rfl hp
 | str b=>obtain ⟨t,rfl,_⟩:=r1.str_inv; exact go rfl hp
 | _=>exact hp.elim
theorem sndS_assert {e:IE} (X:ActS F labC outer):SndS F labC (.assert e):=by
 intro st h n m l s sf P Q E S hw hq
 obtain ⟨⟨x,o⟩,hp,h⟩:=opt_inv h
 obtain ⟨h1,h2⟩:=and_inv h
 refine sAssert_ok hp fun pos he=>?_
 cases o with
 | some=>exact absurd h2 fT
 | none =>
  rw [he]
  exact wpAny_Assert_holds (((sndAll X.toAct).1 e).2 x h1 m l s sf (fun b s=>assB l s P b) _ E S hw fun b s1 t1 hb T1=>⟨hb.t,hq _ _ _ hb.p t1 _ T1.go⟩)
theorem sndS_brk:SndS F labC .brk:=by
 intro st h n m l s sf P Q E S hw hq
 obtain ⟨p,hp,_⟩:=opt_inv h
 refine sBrk_ok hp fun he=>?_
 rw [he]
 exact wpAny_Break (hq _ _ _ hw s _ (.refl S))
theorem sndS_cont:SndS F labC .cont:=by
 intro st h n m l s sf P Q E S hw hq
 obtain ⟨p,hp,_⟩:=opt_inv h
 refine sCont_ok hp fun he=>?_
 rw [he]
 exact wpAny_Continue (hq _ _ _ hw s _ (.refl S))
theorem sndS_raise {k:Lab} (X:ActS F labC outer):SndS F labC (.raise k):=by
 intro st h n m l s sf P Q E S hw hq
 obtain ⟨⟨o,o2⟩,hp,h⟩:=opt_inv h
 obtain ⟨h1,h2⟩:=and_inv h
 obtain ⟨x,hx,h1⟩:=opt_inv h1
 refine sRaise_ok hp fun pos he=>blt_sh h1 fun np cpos xs hx2 hg he2=>?_
 cases o2 with
 | some=>exact absurd h2 fT
 | none =>
  cases nil_ok he2
  rw [he,show o = some x from hx,hx2]
  obtain ⟨g1,g2⟩:=X.lab k
  exact raise_lab S.toSit X.X g2 X.hk hg g1 fun e s' x=>hq _ _ _ hw s m s' e _ (.refl S) x
theorem sndS_if {d:IE} {a b:ISs} (X:ActS F labC outer) (ha:SndSs F labC a) (hb:SndSs F labC b):SndS F labC (.ite d a b):=by
 intro st h n m l s sf P Q E S hw hq
 obtain ⟨⟨x,y,z⟩,hp,h⟩:=opt_inv h
 obtain ⟨h,h1⟩:=and_inv h
 obtain ⟨h2,h3⟩:=and_inv h
 refine sIf_ok hp fun pos he=>?_
 rw [he]
 refine wpAny_If (((sndAll X.toAct).1 d).2 x h2 m l s sf (fun t s=>brS (wpSs F.C n a) (wpSs F.C n b) l s P t) _ E S hw fun t s1 t1 ht T1=>?_)
 cases t with
 | false=>exact hb z h1 n m l t1 s1 P Q E T1.st (ht.f rfl) (hq.after T1.go)
 | true=>exact ha y h3 n m l t1 s1 P Q E T1.st (ht.t rfl) (hq.after T1.go)
theorem sndSs_nil:SndSs F labC .nil:=by
 intro st h n m l s sf P Q E S hw hq
 cases nil_ok h
 exact wpAny_execs_nil (hq _ _ _ hw s m (.refl S))
theorem sndSs_cons {a:IS} {r:ISs} (ha:SndS F labC a) (hr:SndSs F labC r):SndSs F labC (.cons a r):=by
 intro st h n m l s sf P Q E S hw hq
 obtain ⟨⟨x,xs⟩,hp,h⟩:=opt_inv h
 obtain ⟨h1,h2⟩:=and_inv h
 cases vCons_ok hp
 refine wpAny_execs_cons (ha x h1 n m l s sf _ _ E S hw fun fl l1 s1 hf=>?_)
 cases fl with
 | next=>exact fun t1 m1 G=>hr xs h2 n m1 l1 t1 s1 P Q E G.st hf (hq.after G)
 | brk=>exact hq _ _ _ hf
 | cont=>exact hq _ _ _ hf
 | ret v=>exact hq _ _ _ hf
 | exc k=>exact hq _ _ _ hf
end
section
variable {F:Fx} {labC:Lab->Addr} {outer:List Env}
theorem turned {rec:WSt} {P:QS} {s s1:Shared} {m1:SV} {l1:Lc} {sf1:Stem} {Q:FS} {E:PR} {R:FS} {E':PR} (X:ActS F labC outer) (hq:OutS F labC s P Q E) (G:F.Go s s1 m1 l1 sf1)
 (hn:∀ t m l sf,F.Go s1 t m l sf->rec l sf P->R .next t /\ R .cont t) (hb:∀ t,Q .next t->R .brk t) (hr:∀ v t,Q (.ret v) t->R (.ret v) t)
 (hnote:∀ e t,(∀ (R:Unit->Shared->Prop) (E0:PR),(∀ t',cameBackBy F.M F.A F.env E (.ref e) t'->R () t')->wpAny F.M F.A (noteFrame (.ref e) F.env) R E0 t)->E' (.ref e) t):OutS F labC s1 (loopK rec P) R E':=fun fl l sf h=>by
 cases fl with
 | next=>exact fun t m H=>(hn t m l sf H h).1
 | cont=>exact fun t m H=>(hn t m l sf H h).2
 | brk=>exact fun t m H=>hb t (hq _ _ _ h t m (G.after H))
 | ret v=>exact fun t m y H r=>hr y t (hq _ _ _ h t m y (G.after H) r)
 | exc k=>exact fun t0 m t e tr H x=>hnote e t fun R0 E0 hR=>ex_note H.st.frm X.hc rfl x fun t5 x5=>hR t5 (ex_back rfl x5 fun t6 x6=>hq _ _ _ h t0 m t6 e _ (G.after H) x6)
theorem sndS_whl {d:IE} {b:ISs} (X:ActS F labC outer) (hb:SndSs F labC b):SndS F labC (.whl d b):=by
 intro st h n m l s sf P Q E S hw hq
 obtain ⟨⟨x,y,z⟩,hp,h⟩:=opt_inv h
 obtain ⟨h,h1⟩:=and_inv h
 obtain ⟨h2,h3⟩:=and_inv h
 refine sWhile_ok hp fun pos he=>?_
 rw [he,show z = [] from nil_ok h1]
 refine wpAny_While (codeAny_whileLoop (fun j s'=>∃ m l sf,F.Go s s' m l sf /\ wW (wpE F.C d) (wpSs F.C n b) j l sf P) ?_ n ⟨m,l,sf,.refl S,hw.ex⟩)
 rintro j s' ⟨m1,l1,sf1,G1,e1⟩
 cases j with
 | zero=>exact e1.elim
 | succ j =>
  refine ((sndAll X.toAct).1 d).2 x h2 m1 l1 s' sf1 (fun t s=>whlB (wW (wpE F.C d) (wpSs F.C n b) j) (wpSs F.C n b) l1 s P t) _ _ G1.st e1 fun t s2 t2 ht T2=>?_
  have G2:=G1.after T2.go
  cases t with
  | false=>exact wpAny_execs_nil (hq _ _ _ (ht.f rfl) t2 _ G2)
  | true =>
   refine hb y h3 n m1 l1 t2 s2 _ _ _ T2.st (ht.t rfl) ?_
   exact turned X hq G2 (fun t m l sf H h=>⟨⟨j,Nat.lt_succ_self _,m,l,sf,G2.after H,h⟩,⟨j,Nat.lt_succ_self _,m,l,sf,G2.after H,h⟩⟩) (fun _ h=>h) (fun _ _ h=>h) (fun _ _ k=>k _ _ fun _ h=>h)
theorem p_for {x:Str} {p:Pos} {i:Nat} {bs:List Stmt} {b:ISs} {n:Nat} {vs:List V} {I:Addr} {fp:List Addr} {G:Nat->Value->Prop} {Wt:Nat->Heap->Prop} {s s1:Shared} {m:SV} {l:Lc} {sf:Stem} {P:QS} {Q:FS} {E:PR}
 (X:ActS F labC outer) (hb:SndSs F labC b) (hi:isLoc F.sc i x = true) (eb:chkSs F.sc b bs = true) (hp:F.c.pos = false) (W:Walks PG F.c.w F.A I fp [I] vs.length G Wt)
 (hfp:∀ b ∈ fp,b ∉ F.c.fs /\ b ∉ F.L :: F.c.ds) (hI0:s.heap.get? I = none) (hWI:∀ j h,Wt j h->∃ o fs,h.get? I = some o /\ o.data = .fields fs)
 (hP:∀ j y s' m l sf,j < vs.length->G j y->F.Go s s' m l sf->∃ v,vs[j]? = some v /\ VR F.c s'.heap v y)
 (S0:F.St s m l sf) (G1:F.Go s s1 m l sf) (w0:Wt 0 s1.heap) (hw:wL i (wpSs F.C n b) vs l sf P) (hq:OutS F labC s P Q E) :
 codeAny F.M F.A (.forLoop (.Name x p) (.ref I) bs [] F.env) (fun r s'=>match r with | .ok f=>Q f s' | .error e=>cameBackBy F.M F.A F.env E e s') s1:=by
 have hH:F.c.H0.get? I = none:=by
  cases z:F.c.H0.get? I with
  | none=>rfl
  | some o=>have:=S0.base _ _ z; rw [hI0] at this; cases this
 have noP:∀ t:Nat,F.c.pos = true->0 < t:=fun t z=>by rw [hp] at z; cases z
 refine codeAny_forLoop_any (fun nn s'=>∃ j m l sf,F.Go s s' m l sf /\ Wt j s'.heap /\ wL i (wpSs F.C n b) (vs.drop j) l sf P /\ j <= vs.length /\ nn = vs.length + 1 - j)
  (fun nn s2 h=>ex4 h fun j m2 l2 sf2 h=>an5 h fun G2 w2 e2 hj en=>?_) (vs.length + 1) ⟨0,m,l,sf,G1,w0,hw,Nat.zero_le _,rfl⟩
 subst en
 refine ex2 (hWI j _ w2) fun oI fI h=>an2 h fun hI hId=>?_
 have GI:∀ {h':Heap} {t:Nat},(∀ b o,b ∉ [I]->s2.heap.get? b = some o->h'.get? b = some o)->F.Go s { s2 with heap:=h',toks:=t } m2 l2 sf2:=fun {h' t} hk=>by
  have ne:∀ {b:Addr} {o:Obj},s.heap.get? b = some o->b ∉ [I]:=fun e z=>by rw [List.mem_singleton.mp z,hI0] at e; cases e
  exact ⟨G2.st.iter hI hId hH (fun b o hb e=>hk b o (fun z=>hb (List.mem_singleton.mp z)) e) (noP _),⟨fun b o e m n=>hk b o (ne e) (G2.to.same b o e m n),fun b o e m n=>by
   obtain ⟨sl,e'⟩:=G2.to.slot b o e m n
   exact ⟨sl,hk b _ (ne e) e'⟩⟩⟩
 rcases Nat.lt_or_ge j vs.length with hlt | hge
 ·refine W.item j s2 _ _ hlt w2 fun y h' tk hy w3 hk=>?_
  have G3:=GI (t:=tk) hk
  refine ex1 (hP j y _ _ _ _ hlt hy G3) fun v h=>an2 h fun ev rv=>?_
  rw [List.drop_eq_getElem_cons hlt,show vs[j] = v by rw [List.getElem?_eq_getElem hlt] at ev; exact Option.some.inj ev] at e2
  show wpAny F.M F.A (letOwnedTupleGo (.Name x p) (.ref I) y) _ _ _
  refine wpAny_pure (wpAny_assign_Name (p_store X.toAct G3.st hi rv fun t4 G4=>?_))
  have G5:=G3.after G4
  refine hb bs eb n _ _ t4 sf2 _ _ _ G4.st e2 ?_
  have go:∀ t m l sf,F.Go t4 t m l sf->wL i (wpSs F.C n b) (vs.drop (j + 1)) l sf P->∃ n' < vs.length + 1 - j,∃ j m l sf,F.Go s t m l sf /\ Wt j t.heap /\ wL i (wpSs F.C n b) (vs.drop j) l sf P /\ j <= vs.length /\ n' = vs.length + 1 - j:=fun t m l sf H h =>
   ⟨vs.length + 1 - (j + 1),turn_lt hlt,j + 1,m,l,sf,G5.after H,W.frame _ _ _ w3 fun b hb o e=>(G4.to.trans H.to).same b o e (hfp b hb).1 (hfp b hb).2,h,hlt,rfl⟩
  exact turned X hq G5 (fun t m l sf H h=>⟨go t m l sf H h,go t m l sf H h⟩) (fun _ h=>h) (fun _ _ h=>h) (fun _ _ k=>k _ _ fun _ h=>h)
 ·have hjn:j = vs.length:=Nat.le_antisymm hj hge
  subst hjn
  refine W.done s2 _ _ w2 fun h' tk hk=>?_
  rw [List.drop_length] at e2
  exact wpAny_execs_nil (hq _ _ _ e2 _ m2 (GI hk))
theorem VRs.get' {c:Cx} {h:Heap}:∀ {xs:List V} {vs:List Value},VRs c h xs vs->∀ {i:Nat} {v:Value},vs[i]? = some v->∃ x,xs[i]? = some x /\ VR c h x v
 | [],_,r,i,x,e=>by rw [r.nil_inv] at e; cases e
 | _ :: _,_,r,i,x,e=>by
  obtain ⟨y,ys,rfl,a,b⟩:=r.cons_inv
  cases i with
  | zero=>cases e; exact ⟨_,rfl,a⟩
  | succ i=>exact VRs.get' b (i:=i) e
theorem not_mut {a:Addr} {s:Shared} {m:SV} {l:Lc} {sf:Stem} (S:F.St s m l sf) (h:¬ F.c.mut a):a ∉ F.c.fs /\ a ∉ F.L :: F.c.ds:=⟨fun z=>h (.inl z),fun z=>h (Go.mut S a (.inr z))⟩
theorem sndS_forL {i:Nat} {e:IE} {b:ISs} (X:ActS F labC outer) (hb:SndSs F labC b):SndS F labC (.forL i e b):=by
 intro st h n m l s sf P Q E S hw hq
 obtain ⟨⟨x,it,bs,o⟩,hp,h⟩:=opt_inv h
 obtain ⟨h,h1⟩:=and_inv h
 obtain ⟨h,h2⟩:=and_inv h
 obtain ⟨h,h3⟩:=and_inv h
 obtain ⟨h,h4⟩:=and_inv h
 refine sFor_ok hp fun pos he=>name_isLoc h fun y p hy hi=>?_
 rw [he,show x = _ from hy,show o = [] from nil_ok h1]
 refine wpAny_For (((sndAll X.toAct).1 e).1 it h3 m l s sf _ _ E S hw fun v s1 y t1 hv T1 r1=>?_) (fun _=>folded_no h4)
 obtain ⟨vs,rfl,hv⟩:=list1_inv hv
 obtain ⟨a,vals,rfl,n1,i1,k1,r1⟩:=r1.list_inv
 refine wpAny_pyIter_list i1 ?_
 have T2:=pushed T1.st { cls:=.type "list_iterator",data:=.fields #[.ref a,.int 0 0] }
 have hlen:=r1.len
 have hne:a ≠ t1.heap.objs.size:=by obtain ⟨o,ho,_⟩:=i1; exact Nat.ne_of_lt (Heap.lt_size ho)
 have W:=Walks.list (prog:=PG) (w:=F.c.w) T1.st.hd t1.heap.objs.size a hne vals.toArray
 rw [show vals.toArray.size = vs.length from hlen] at W
 refine p_for X hb hi h2 (X.lo hv.t) W (fun z hz=>?_) (Heap.get?_none_of_le (Nat.le_refl _)) (fun j h w=>?_) (fun j y s' m l sf hj hy G=>?_) T1.st T2.go ⟨⟨_,Heap.get?_push_size _ rfl,rfl,rfl⟩,i1.push _⟩ hv.p.ex (hq.after T1.go)
 ·rcases List.mem_cons.mp hz with e | hz
  ·rw [e]; exact not_mut T1.st T1.st.toSit.fresh
  ·rw [List.mem_singleton.mp hz]; exact not_mut T1.st n1
 ·obtain ⟨⟨o,ho,_,hd⟩,_⟩:=w
  exact ⟨o,_,ho,hd⟩
 ·exact (r1.step G.to (Go.mut T1.st)).get' (by simpa using hy)
theorem rangeV_len (a b d:Int) (hd:d = 1 \/ d = -1):((rangeV a b d).length:Int) = Builtin.Range.rangeSize a b d:=by
 unfold rangeV Builtin.Range.rangeSize
 rcases hd with rfl | rfl
 ·simp
  split <;> lia
 ·simp
  split <;> lia
theorem rangeV_at (a b d:Int) {j:Nat} (h:j < (rangeV a b d).length):(rangeV a b d)[j]? = some (.int (a + (j:Int) * d)):=by
 unfold rangeV at h ⊢
 simp only [List.length_map,List.length_range] at h
 simp [h]
theorem fits {i:Int} (h1:-3000000000 < i) (h2:i < 3000000000):Builtin.Range.rangeFitsLong i = true:=by
 unfold Builtin.Range.rangeFitsLong
 rw [Bool.and_eq_true,decide_eq_true_iff,decide_eq_true_iff]
 lia
theorem range_loop {x:Str} {p:Pos} {i:Nat} {bs:List Stmt} {b:ISs} {n:Nat} {s:Shared} {m:SV} {l:Lc} {sf:Stem} {P:QS} {Q:FS} {E:PR} {a z d:Int} {t u v:Tok} {R:Addr}
 (X:ActS F labC outer) (hb:SndSs F labC b) (hi:isLoc F.sc i x = true) (eb:chkSs F.sc b bs = true) (S:F.St s m l sf) (hr:IsRange s.heap R a z d t u v)
 (hw:Must (F.C.loose && small a && small z && (decide (d = 1) || decide (d = -1))) (WL i (wpSs F.C n b) (rangeV a z d) l sf P)) (hq:OutS F labC s P Q E) :
 wpAny F.M F.A (pyIter (.ref R)) (fun it s₂=>codeAny F.M F.A (.forLoop (.Name x p) it bs [] F.env) (fun r s'=>match r with | .ok f=>Q f s' | .error e=>cameBackBy F.M F.A F.env E e s') s₂) E s:=by
 obtain ⟨h1,h2⟩:=and_inv hw.t
 obtain ⟨h1,h3⟩:=and_inv h1
 obtain ⟨h0,h1⟩:=and_inv h1
 have hd:d = 1 \/ d = -1:=(Bool.or_eq_true_iff.mp h2).elim (fun z=>.inl (of_decide_eq_true z)) fun z=>.inr (of_decide_eq_true z)
 have ha':=small_spec h1
 have hz':=small_spec h3
 have hlen:=rangeV_len a z d hd
 have hsm:Builtin.Range.small a z d = true:=by
  unfold Builtin.Range.small
  have hsz:0 <= Builtin.Range.rangeSize a z d /\ Builtin.Range.rangeSize a z d < 2000000001:=by
   rw [<- hlen]
   refine ⟨by lia,?_⟩
   rw [hlen]; unfold Builtin.Range.rangeSize
   rcases hd with rfl | rfl
   ·simp; split <;> lia
   ·simp; split <;> lia
  generalize Builtin.Range.rangeSize a z d = w at hsz
  have f1:=fits (i:=a) (by lia) (by lia)
  have f2:=fits (i:=z) (by lia) (by lia)
  have f3:=fits (i:=d) (by lia) (by lia)
  have f4:=fits (i:=w) (by lia) (by lia)
  have f5:(if d > 0 then Builtin.Range.rangeFitsLong (z + (d - 1)) else Builtin.Range.rangeFitsLong (z + (d + 1))) = true:=by
   split <;> exact fits (by lia) (by lia)
  rw [f1,f2,f3,f4,f5]; simp
 refine wpAny_pyIter_range hr hsm ?_
 have T2:=pushed S { cls:=.type "range_iterator",data:=.fields #[rawInt a,rawInt (Builtin.Range.rangeSize a z d),rawInt d] }
 have W:=Walks.range (prog:=PG) (w:=F.c.w) S.hd s.heap.objs.size a d (rangeV a z d).length
 refine p_for X hb hi eb (X.lo h0) W (fun w hw=>?_) (Heap.get?_none_of_le (Nat.le_refl _)) (fun j h w=>⟨_,_,w,rfl⟩) (fun j y s' m l sf hj hy G=>?_) S T2.go ?_ hw.p.ex hq
 ·rw [List.mem_singleton.mp hw]; exact not_mut S S.toSit.fresh
 ·obtain ⟨t,rfl⟩:=hy
  exact ⟨_,rangeV_at a z d hj,.int _ _⟩
 ·show IsRangeIter _ _ (a + ((0:Nat):Int) * d) (((rangeV a z d).length:Int) - ((0:Nat):Int)) d
  rw [hlen,show a + ((0:Nat):Int) * d = a by simp,show Builtin.Range.rangeSize a z d - ((0:Nat):Int) = Builtin.Range.rangeSize a z d by simp]
  exact Heap.get?_push_size _ rfl
theorem labEq_ok {a b:Lab} (h:labEq a b = true):a = b:=by cases a <;> cases b <;> first | rfl | cases h
theorem sndS_try {b:ISs} {k:Lab} (X:ActS F labC outer) (hb:SndSs F labC b):SndS F labC (.try_ b k):=by
 intro st h n m l s sf P Q E S hw hq
 obtain ⟨⟨bs,hs,o,f⟩,hp,h⟩:=opt_inv h
 obtain ⟨h,h1⟩:=and_inv h
 obtain ⟨h,h2⟩:=and_inv h
 obtain ⟨h3,h4⟩:=and_inv h
 have hh:∃ np p1 hpos,hs = [.ExceptHandler (some (.Name (lnm k) np)) none [.Pass p1] hpos] /\ glob F.sc (lnm k) = true:=by
  have h4:hdlOk F.sc (lnm k) hs = true:=h4
  cases hs with
  | nil=>cases h4
  | cons hd tl=>cases tl with
   | cons=>cases hd; cases h4
   | nil =>
    obtain ⟨o,mm,bb,hpos⟩:=hd
    obtain ⟨h4,h5⟩:=and_inv h4
    obtain ⟨h4,h6⟩:=and_inv h4
    obtain ⟨e,he,h4⟩:=opt_inv h4
    obtain ⟨pp,hpp,h5⟩:=opt_inv h5
    obtain ⟨p1,hp1,_⟩:=opt_inv h5
    refine sPass_ok hp1 fun hp2=>name_isGlob h4 fun np hx hg=>⟨np,p1,hpos,?_,hg⟩
    cases mm with
    | some=>cases h6
    | none=>rw [he,hx,v1_ok hpp,hp2]
 obtain ⟨np,p1,hpos,rfl,hg⟩:=hh
 refine sTry_ok hp fun pos he=>?_
 rw [he,show o = [] from nil_ok h2,show f = [] from nil_ok h1]
 refine wpAny_Try_except (hb bs h3 n m l s sf _ _ _ S hw fun fl l1 s1 hf=>?_)
 cases fl with
 | next=>exact fun t1 m1 G=>wpAny_execs_nil (hq _ _ _ hf t1 m1 G)
 | brk=>exact hq _ _ _ hf
 | cont=>exact hq _ _ _ hf
 | ret v=>exact hq _ _ _ hf
 | exc k2 =>
  intro t0 m1 t1 ex tr G1 x1
  have hk:k2 = k /\ P .next l1 s1:=by
   have hf:(match labEq k2 k with | true=>P .next l1 s1 | false=>False):=hf
   cases e:labEq k2 k with
   | false=>rw [e] at hf; exact hf.elim
   | true=>rw [e] at hf; exact ⟨labEq_ok e,hf⟩
  obtain ⟨rfl,hg2⟩:=hk
  obtain ⟨g1,g2⟩:=X.lab k2
  refine caught_lab X.X G1.st.base (fun b o hb hm=>G1.st.toSit.base_mut hb (.inl hm)) g2 G1.st.frm X.hc X.hk hg g1 x1 fun h' t ht st=>?_
  exact hq _ _ _ hg2 _ m1 (G1.after (Fx.To.keep G1.st st ht).go)
end
section
variable {F:Fx} {labC:Lab->Addr} {outer:List Env}
theorem isNum_ok {n:Int} {e:IE} (h:isNum n e = true):e = .con (.int n):=by
 cases e with
 | con v=>cases v with
  | int b=>rw [show b = n from beq_iff_eq.mp h]
  | _=>exact absurd h fT
 | _=>exact absurd h fT
theorem forR_int {lo:Bool} {i:Nat} {wb:WSt} {l:Lc} {x y z:V} {P:QS} {s:Stem} {h:Heap} {c:Cx} {a b d:Value} (rx:VR c h x a) (ry:VR c h y b) (rz:VR c h z d) (hv:forR3 lo i wb l x y P z s) :
 ∃ p q r t u v,a = .int p t /\ b = .int q u /\ d = .int r v /\ Must (lo && small p && small q && (decide (r = 1) || decide (r = -1))) (WL i wb (rangeV p q r) l s P):=by
 obtain ⟨p,rfl,h1⟩:=int1_inv hv
 obtain ⟨q,rfl,h2⟩:=int1_inv h1
 obtain ⟨r,rfl,h3⟩:=int1_inv h2
 obtain ⟨t,rfl⟩:=rx.int_inv
 obtain ⟨u,rfl⟩:=ry.int_inv
 obtain ⟨v,rfl⟩:=rz.int_inv
 exact ⟨p,q,r,t,u,v,rfl,rfl,rfl,h3⟩
def rng1 (K:V->Stem->Prop) (vs:List V) (s:Stem):Prop:=match vs with
 | [y]=>K y s
 | _=>False
def rng2 (K:V->V->Stem->Prop) (vs:List V) (s:Stem):Prop:=match vs with
 | [x,y]=>K x y s
 | _=>False
def rng3 (K:V->V->V->Stem->Prop) (vs:List V) (s:Stem):Prop:=match vs with
 | [x,y,z]=>K x y z s
 | _=>False
theorem vrs1 {c:Cx} {h:Heap} {x:V} {ys:List Value} (r:VRs c h [x] ys):∃ y,ys = [y] /\ VR c h x y:=by
 obtain ⟨y,ys,rfl,a,b⟩:=r.cons_inv
 exact ⟨y,by rw [b.nil_inv],a⟩
theorem vrs2 {c:Cx} {h:Heap} {x y:V} {ys:List Value} (r:VRs c h [x,y] ys):∃ a b,ys = [a,b] /\ VR c h x a /\ VR c h y b:=by
 obtain ⟨a,ys,rfl,ra,r⟩:=r.cons_inv
 obtain ⟨b,rfl,rb⟩:=vrs1 r
 exact ⟨a,b,rfl,ra,rb⟩
theorem vrs3 {c:Cx} {h:Heap} {x y z:V} {ys:List Value} (r:VRs c h [x,y,z] ys):∃ a b d,ys = [a,b,d] /\ VR c h x a /\ VR c h y b /\ VR c h z d:=by
 obtain ⟨a,ys,rfl,ra,r⟩:=r.cons_inv
 obtain ⟨b,d,rfl,rb,rd⟩:=vrs2 r
 exact ⟨a,b,d,rfl,ra,rb,rd⟩
theorem rngOk_sh {sc:Scope} {a b d:IE} {l:List EX} {G:Prop} (h:rngOk sc a b d l = true) (k1:a = .con (.int 0)->d = .con (.int 1)->chkEs sc (.cons b .nil) l = true->G) (k2:d = .con (.int 1)->chkEs sc (.cons a (.cons b .nil)) l = true->G)
 (k3:chkEs sc (.cons a (.cons b (.cons d .nil))) l = true->G):G:=by
 cases l with
 | nil=>exact absurd h fT
 | cons e1 l=>cases l with
  | nil =>
   obtain ⟨h,h2⟩:=and_inv h
   exact k1 (isNum_ok (and_inv h).1) (isNum_ok (and_inv h).2) h2
  | cons e2 l=>cases l with
   | nil=>exact k2 (isNum_ok (and_inv h).1) (and_inv h).2
   | cons e3 l=>exact k3 h
theorem rng1_sh {K:V->Stem->Prop} {vs:List V} {s:Stem} {G:Prop} (h:rng1 K vs s) (k:∀ x,vs = [x]->K x s->G):G:=by
 cases vs with
 | nil=>exact h.elim
 | cons x vs=>cases vs with
  | nil=>exact k x rfl h
  | cons=>exact h.elim
theorem rng2_sh {K:V->V->Stem->Prop} {vs:List V} {s:Stem} {G:Prop} (h:rng2 K vs s) (k:∀ x y,vs = [x,y]->K x y s->G):G:=by
 cases vs with
 | nil=>exact h.elim
 | cons x vs=>cases vs with
  | nil=>exact h.elim
  | cons y vs=>cases vs with
   | nil=>exact k x y rfl h
   | cons=>exact h.elim
theorem rng3_sh {K:V->V->V->Stem->Prop} {vs:List V} {s:Stem} {G:Prop} (h:rng3 K vs s) (k:∀ x y z,vs = [x,y,z]->K x y z s->G):G:=by
 cases vs with
 | nil=>exact h.elim
 | cons x vs=>cases vs with
  | nil=>exact h.elim
  | cons y vs=>cases vs with
   | nil=>exact h.elim
   | cons z vs=>cases vs with
    | nil=>exact k x y z rfl h
    | cons=>exact h.elim
theorem rng_call {xs:List EX} {ir:IEs} {rp rpos:Pos} {K:List V->Stem->Prop} {s:Shared} {m:SV} {l:Lc} {sf:Stem} {E:PR} {R:PR} (X:ActS F labC outer) (hg:glob F.sc "range" = true) (S:F.St s m l sf) (hc:chkEs F.sc ir xs = true) (hw:wpEs F.C ir l sf K)
 (hk:∀ vs s1 ys t1,K vs s1->F.To s m l t1 s1->VRs F.c t1.heap vs ys->wpAny F.M F.A (call (.type "range") ys) R E t1):wpAny F.M F.A (eval (.Call (.Name "range" rp) xs [] rpos) F.env) R E s:=by
 refine wpAny_Call_NameR (p_builtin (In.here X.X S.toSit) X.hk hg X.O.range.1 X.O.range.2 ?_)
 exact callWith_machine rfl (star_any hc) (evalArgs_all hc (((sndAll X.toAct).2 ir).1 xs hc m l s sf rpos K _ E S hw fun vs s1 ys t1 hv _ T1 r1=>hk vs s1 ys t1 hv T1 r1))
theorem sndS_forR {i:Nat} {a b d:IE} {bd:ISs} (X:ActS F labC outer) (hb:SndSs F labC bd):SndS F labC (.forR i a b d bd):=by
 intro st h n m l s sf P Q E S hw hq
 obtain ⟨⟨x,it,bs,o⟩,hp,h⟩:=opt_inv h
 obtain ⟨h,h1⟩:=and_inv h
 obtain ⟨h,h2⟩:=and_inv h
 obtain ⟨h,h3⟩:=and_inv h
 refine sFor_ok hp fun pos he=>name_isLoc h fun y p hy hi=>blt_sh h3 fun rp rpos xs hx hg hr=>?_
 rw [he,show x = _ from hy,show it = _ from hx,show o = [] from nil_ok h1]
 have lp:=fun {t1 t2:Shared} {s1:Stem} (T1:F.To s m l t1 s1) (T2:F.To t1 m l t2 s1) {a z d:Int} {t u v:Tok} {R:Addr} (hr:IsRange t2.heap R a z d t u v) hv=>range_loop (p:=p) (n:=n) (bs:=bs) (Q:=Q) (E:=E) X hb hi h2 T2.st hr hv (hq.after (T1.trans T2).go)
 clear he hy hx hp h3 h
 refine rngOk_sh hr (fun ha hd hc=>?_) (fun hd hc=>?_) fun hc=>?_
 ·rw [ha,hd] at hw
  refine wpAny_For (rng_call X hg S hc (K:=rng1 fun y s=>forR3 F.C.loose i (wpSs F.C n bd) l (.int 0) y P (.int 1) s) hw fun vs s1 ys t1 hv T1 r1=>rng1_sh hv fun y e hv=>?_) (fun _=>rfl)
  rw [e] at r1
  obtain ⟨yv,rfl,r⟩:=vrs1 r1
  obtain ⟨q,rfl,h5⟩:=int1_inv (show int1 y _ from hv)
  obtain ⟨t,rfl⟩:=r.int_inv
  exact call_range_1 (lp T1 (.keep T1.st (Step.push _ _ _ _) fun _=>Nat.succ_pos _) (IsRange.new _ _ _ _ _ _ _) h5)
 ·rw [hd] at hw
  refine wpAny_For (rng_call X hg S hc (K:=rng2 fun x y s=>forR3 F.C.loose i (wpSs F.C n bd) l x y P (.int 1) s) hw fun vs s1 ys t1 hv T1 r1=>rng2_sh hv fun x y e hv=>?_) (fun _=>rfl)
  rw [e] at r1
  obtain ⟨a1,b1,rfl,ra,rb⟩:=vrs2 r1
  obtain ⟨q,w,r,t,u,v,rfl,rfl,h7,h5⟩:=forR_int (d:=.int 1 0) ra rb (.int 1 0) hv
  cases h7
  exact call_range_2 (lp T1 (.keep T1.st (Step.push _ _ _ _) fun _=>Nat.succ_pos _) (IsRange.new _ _ _ _ _ _ _) h5)
 ·refine wpAny_For (rng_call X hg S hc (K:=rng3 fun x y z s=>forR3 F.C.loose i (wpSs F.C n bd) l x y P z s) hw fun vs s1 ys t1 hv T1 r1=>rng3_sh hv fun x y z e hv=>?_) (fun _=>rfl)
  rw [e] at r1
  obtain ⟨a1,b1,d1,rfl,ra,rb,rd⟩:=vrs3 r1
  obtain ⟨q,w,r,t,u,v,rfl,rfl,rfl,h5⟩:=forR_int ra rb rd hv
  have hd:r = 1 \/ r = -1:=(Bool.or_eq_true_iff.mp (and_inv h5.t).2).elim (fun z=>.inl (of_decide_eq_true z)) fun z=>.inr (of_decide_eq_true z)
  exact call_range_3 (by rcases hd with rfl | rfl <;> decide) (lp T1 (.keep T1.st (Step.push _ _ _ _) T1.st.tk) (IsRange.new _ _ _ _ _ _ _) h5) (.inl (PyProof.noPylong_small (by rcases hd with rfl | rfl <;> decide)))
end
section
variable {F:Fx} {labC:Lab->Addr} {outer:List Env}
theorem tgt2_sh {i j:Nat} {t:EX} {G:Prop} (h:tgt2 F.sc i j t = true) (k:∀ x y p1 p2 n p,t = .Tuple [.Name x p1,.Name y p2] n p->isLoc F.sc i x = true->isLoc F.sc j y = true->G):G:=by
 obtain ⟨⟨u,nn,p3⟩,hu,h⟩:=opt_inv h
 obtain ⟨⟨a,b⟩,hn,h⟩:=opt_inv h
 obtain ⟨h1,h2⟩:=and_inv h
 exact vTup_ok hu fun he=>name_isLoc h1 fun x p1 hx hi=>name_isLoc h2 fun y p2 hy hj=>k x y p1 p2 nn p3 (by rw [he,show u = [a,b] from v2_ok hn,show a = _ from hx,show b = _ from hy]) hi hj
theorem wSet2 {l:Lc} {i j:Nat} {vs:List V} {P:Lc->Prop} (h:wSet l [i,j] vs P):∃ a b,vs = [a,b] /\ P ((l.set i (some a)).set j (some b)):=match vs,h with
 | [a,b],h=>⟨a,b,rfl,h⟩
theorem wSet3 {l:Lc} {i j k:Nat} {vs:List V} {P:Lc->Prop} (h:wSet l [i,j,k] vs P):∃ a b d,vs = [a,b,d] /\ P (((l.set i (some a)).set j (some b)).set k (some d)):=match vs,h with
 | [a,b,d],h=>⟨a,b,d,rfl,h⟩
theorem hst2 {ts:List EX} {n:Nat} {p:Pos} {f:EX} {es:List EX} {kw:List Keyword} {pos:Pos} {env:Env}:swappedStores [.Tuple ts n p] (.Call f es kw pos) env = pure none:=by unfold swappedStores; rfl
theorem Fx.Go.up {s s':Shared} {m m1:SV} {l l1:Lc} {sf sf1:Stem} (S:F.St s m1 l1 sf1) (G:F.Go s s' m l sf) {v:V} {y:Value} (r:VR F.c s.heap v y):VR F.c s'.heap v y:=r.step G.to (Go.mut S)
theorem assign2 {x y:Str} {p1 p2 p3:Pos} {nn:Nat} {i j:Nat} {a:Addr} {y1 y2:Value} {v1 v2:V} {m:SV} {l:Lc} {s:Shared} {sf:Stem} {Q:Unit->Shared->Prop} {E:PR} (X:ActS F labC outer) (hi:isLoc F.sc i x = true) (hj:isLoc F.sc j y = true) (S:F.St s m l sf)
 (i1:s.heap.IsTuple a [y1,y2].toArray) (ra:VR F.c s.heap v1 y1) (rb:VR F.c s.heap v2 y2) (h:∀ s',F.Go s s' (fun z=>if z = y then some y2 else if z = x then some y1 else m z) ((l.set i (some v1)).set j (some v2)) sf->Q () s'):wpAny F.M F.A (assign (.Tuple [.Name x p1,.Name y p2] nn p3) F.env (.ref a)) Q E s:=by
 refine wpAny_assign_Tuple S.hd i1 rfl rfl fun h' hx=>?_
 have T:=Fx.To.keep S (t:=s.toks) (Step.extBut hx) S.tk
 show wpAny F.M F.A (do holding [y2] (assign (.Name x p1) F.env y1); (do holding [] (assign (.Name y p2) F.env y2); pure ())) _ E _
 refine wpAny_bind (wpAny_holding (wpAny_assign_Name (p_store X.toAct T.st hi (T.up ra) fun t3 G3=>?_)))
 exact wpAny_bind (wpAny_holding (wpAny_assign_Name (p_store X.toAct G3.st hj (G3.up T.st (T.up rb)) fun t4 G4=>wpAny_pure (h t4 ((T.go.after G3).after G4)))))
theorem sndS_asgnT {is:List Nat} {e:IE} (X:ActS F labC outer):SndS F labC (.asgnT is e):=by
 intro st h n m l s sf P Q E S hw hq
 obtain ⟨⟨ts,x⟩,hp,h⟩:=opt_inv h
 obtain ⟨⟨i,j⟩,hij,h⟩:=opt_inv h
 obtain ⟨h,h1⟩:=and_inv h
 obtain ⟨h,h2⟩:=and_inv h
 obtain ⟨h,h3⟩:=and_inv h
 obtain ⟨t,ht,h⟩:=opt_inv h
 obtain ⟨cl,hcl⟩:=Option.isSome_iff_exists.mp h3
 refine sAssign_ok hp fun pos he=>tgt2_sh h fun a b p1 p2 nn p3 hy hi hj=>vCall_ok hcl fun hx=>?_
 cases v2_ok hij
 rw [he,show ts = [t] from v1_ok ht,hy,arm_exec_Assign]
 refine wpAny_bind (wpAny_standAt ?_)
 rw [hsw1,swaps_no h2]
 refine wpAny_bind (wpAny_pure ?_)
 rw [if_neg fT]
 refine wpAny_bind (((sndAll X.toAct).1 e).1 x h1 m l s sf _ _ E S hw fun v s1 yv t1 hv T1 r1=>?_)
 rw [show x = _ from hx,hst2]
 refine wpAny_bind (wpAny_pure ?_)
 cases v with
 | tup vs =>
  obtain ⟨a1,b1,rfl,hv⟩:=wSet2 hv
  obtain ⟨ad,vals,rfl,n1,i1,k1,r1⟩:=r1.tup_inv
  obtain ⟨y1,y2,rfl,ra,rb⟩:=vrs2 r1
  show wpAny F.M F.A (do assign (.Tuple [.Name a p1,.Name b p2] nn p3) F.env (.ref ad); pure .next) Q E t1
  exact wpAny_bind (assign2 X hi hj T1.st i1 ra rb fun s' G=>wpAny_pure (hq _ _ _ hv s' _ (T1.go.after G)))
 | _=>exact hv.elim
theorem star_no {e:EX} (h:isStar e = false):(match (motive:=EX->Bool) e with | .Starred ..=>true | _=>false) = false:=Expr.casesOn (motive_1:=fun e=>isStar e = false->(match (motive:=EX->Bool) e with | .Starred ..=>true | _=>false) = false) e (fun _ _ _ _=>rfl) (fun _ _ _ _=>rfl) (fun _ _ _ _ _=>rfl) (fun _ _ _ _=>rfl) (fun _ _ _ _ _=>rfl) (fun _ _ _ _ _=>rfl) (fun _ _ _ _=>rfl) (fun _ _ _ _=>rfl) (fun _ _ _ _ _=>rfl) (fun _ _ _ _ _=>rfl) (fun _ _ _ _ _ _=>rfl) (fun _ _ _ _ _=>rfl) (fun _ _ _=>rfl) (fun _ _ _=>rfl) (fun _ _ _=>rfl) (fun _ _ _ _ _=>rfl) (fun _ _ _ _ _=>rfl) (fun _ _ _ _ _=>rfl) (fun _ _ _=>rfl) (fun _ _ _ _=>rfl) (fun _ _ _ _=>rfl) (fun _ _ _ _=>rfl) (fun _ _ h=>absurd h.symm fT) (fun _ _ _=>rfl) (fun _ _ _=>rfl) (fun _ _ _ _=>rfl) (fun _ _ _ _ _=>rfl) h
theorem hst3 {x y z:Str} {p1 p2 p3 p4 p5:Pos} {n1 n2:Nat} {e1 e2 e3:EX} (hk:F.sc.kind = .function) {i j k:Nat} (hi:isLoc F.sc i x = true) (hj:isLoc F.sc j y = true) (hz:isLoc F.sc k z = true) (h1:isStar e1 = false) (h2:isStar e2 = false) (h3:isStar e3 = false)
 (l1:(p2.line == p1.line) = true) (l2:(p3.line == p1.line) = true) (d1:x ≠ y) (d2:x ≠ z) (d3:y ≠ z) (f1:([e1,e2,e3].all (foldedForSure 8)) = false) (f2:([e1,e2,e3].all (constantsAlone 8)) = false) :
 swappedStores [.Tuple [.Name x p1,.Name y p2,.Name z p3] n1 p4] (.Tuple [e1,e2,e3] n2 p5) F.env = pure (some [x,y,z]):=by
 obtain ⟨a1,_,_⟩:=loc_spec hi
 obtain ⟨a2,_,_⟩:=loc_spec hj
 obtain ⟨a3,_,_⟩:=loc_spec hz
 have b1:F.env.blockKind = .function:=by unfold Env.blockKind; show (if F.sc.kind.isAnnotationScope = true then _ else F.sc.kind) = _; rw [hk]; rfl
 have k1:F.env.kindOf x = some .local:=a1
 have k2:F.env.kindOf y = some .local:=a2
 have k3:F.env.kindOf z = some .local:=a3
 have g1:=star_no h1
 have g2:=star_no h2
 have g3:=star_no h3
 unfold swappedStores
 have hany:([e1,e2,e3].any fun | .Starred ..=>true | _=>false) = false:=by
  exact List.any_eq_false.mpr fun e he z=>by
   rcases List.mem_cons.mp he with q | he
   ·rw [q] at z; exact absurd (g1.symm.trans z) fT
   rcases List.mem_cons.mp he with q | he
   ·rw [q] at z; exact absurd (g2.symm.trans z) fT
   ·rw [List.mem_singleton.mp he] at z; exact absurd (g3.symm.trans z) fT
 have hnames:([PySem.Expr.Name x p1,.Name y p2,.Name z p3].filterMap fun
  | .Name id pos=>if F.env.kindOf id == some .local && pos.line == ((([PySem.Expr.Name x p1,.Name y p2,.Name z p3]:List EX).head?.map (·.pos.line)).getD 0) then some id else none
  | _=>none) = [x,y,z]:=by
  have c:∀ {z:Str} {p:Pos},F.env.kindOf z = some .local->(p.line == p1.line) = true->(if (F.env.kindOf z == some .local && p.line == p1.line) = true then some z else none) = some z:=fun a b=>if_pos (by rw [a,b]; rfl)
  refine Eq.trans (List.filterMap_cons_some (b:=x) ?_) (congrArg (x :: ·) (Eq.trans (List.filterMap_cons_some (b:=y) ?_) (congrArg (y :: ·) (Eq.trans (List.filterMap_cons_some (b:=z) ?_) rfl))))
  ·exact c k1 (beq_self_eq_true _)
  ·exact c k2 l1
  ·exact c k3 l2
 have hd:[x,y,z].eraseDups.length = 3:=by
  have:[x,y,z].eraseDups = [x,y,z]:=by
   simp [List.eraseDups_cons,d1.symm,d2.symm,d3.symm]
  rw [this]; rfl
 dsimp only
 refine (if_neg ?_).trans ?_
 ·simp [b1]
 refine (if_neg ?_).trans ?_
 ·exact fun h=>absurd (hany.symm.trans h) fT
 refine (if_neg ?_).trans ?_
 ·intro h
  have h':=(congrArg (fun l:List Str=>(l.length != 3 || l.eraseDups.length != l.length)) hnames).symm.trans h
  simp [hd] at h'
 refine (if_neg ?_).trans ?_
 ·rw [f1]; exact fT
 refine (if_neg ?_).trans ?_
 ·rw [f2]; exact fT
 exact congrArg (fun l=>pure (some l)) hnames
theorem assign_swapped {M:Model} {A:Around} {env:Env} {v:Value} {x y z:Str} {stores:List (Value->Sem Unit)} {s:Shared} {Q:FS} {E:PR}
 (h:wpAny M A (unpackItems v 3 none) (fun items s'=>wpAny M A (assignInOrder [bindName env z,bindName env y,bindName env x] items.reverse) (fun _ s''=>Q .next s'') E s') E s):wpAny M A (assignStores env v (some [x,y,z]) stores) Q E s:=by
 show wpAny M A (do rule "assign.swapped-stores"; let items <- unpackItems v 3 none; assignInOrder [bindName env z,bindName env y,bindName env x] items.reverse; pure Flow.next) Q E s
 exact wpAny_bind (wpAny_rule (wpAny_bind (wpAny_mono h (fun items s' h'=>wpAny_bind (wpAny_mono h' (fun _ _ h''=>wpAny_pure h'') fun _ _ x=>x)) fun _ _ x=>x)))
theorem inOrder3 {M:Model} {A:Around} {t1 t2 t3:Value->Sem Unit} {a b d:Value} {s:Shared} {Q:Unit->Shared->Prop} {E:PR} (h:wpAny M A (t1 a) (fun _ s'=>wpAny M A (t2 b) (fun _ s''=>wpAny M A (t3 d) (fun _ s3=>Q () s3) E s'') E s') E s) :
 wpAny M A (assignInOrder [t1,t2,t3] [a,b,d]) Q E s:=by
 show wpAny M A (do holding [b,d] (t1 a); (do holding [d] (t2 b); (do holding [] (t3 d); pure ()))) Q E s
 exact wpAny_bind (wpAny_holding (wpAny_mono h (fun _ _ h1=>wpAny_bind (wpAny_holding (wpAny_mono h1 (fun _ _ h2=>wpAny_bind (wpAny_holding (wpAny_mono h2 (fun _ _ h3=>wpAny_pure h3) fun _ _ x=>x))) fun _ _ x=>x))) fun _ _ x=>x))
theorem unpack3 {a:Addr} {y1 y2 y3:Value} {s:Shared} {Q:List Value->Shared->Prop} {E:PR} (hh:F.A.handled = none) (ht:s.heap.IsTuple a [y1,y2,y3].toArray)
 (hQ:∀ h',Heap.ExtBut s.heap.objs.size s.heap h'->Q [y1,y2,y3] { s with heap:=h' }):wpAny F.M F.A (unpackItems (.ref a) 3 none) Q E s :=
 wpAny_unpackItems_tuple (items:=[y1,y2,y3].toArray) hh ht hQ
theorem tgt3_sh {i j k:Nat} {ts:List EX} {G:Prop} (h:tgt3 F.sc i j k ts = true) (g:∀ xa xb xd p1 p2 p4 nn p3,ts = [.Tuple [.Name xa p1,.Name xb p2,.Name xd p4] nn p3]->isLoc F.sc i xa = true->isLoc F.sc j xb = true->isLoc F.sc k xd = true->(p2.line == p1.line) = true->(p4.line == p1.line) = true->G):G:=by
 obtain ⟨t,ht,h⟩:=opt_inv h
 obtain ⟨⟨u,nn,p3⟩,hu,h⟩:=opt_inv h
 obtain ⟨⟨na,nb,nd⟩,hn,h⟩:=opt_inv h
 obtain ⟨h,l2⟩:=and_inv h
 obtain ⟨h,l1⟩:=and_inv h
 obtain ⟨h,hk⟩:=and_inv h
 refine vTup_ok hu fun hu=>name_isLoc (and_inv h).1 fun xa p1 ha hi=>name_isLoc (and_inv h).2 fun xb p2 hb hj=>name_isLoc hk fun xd p4 hd hk=>?_
 cases (show na = _ from ha); cases (show nb = _ from hb); cases (show nd = _ from hd)
 exact g xa xb xd p1 p2 p4 nn p3 (by rw [v1_ok ht,hu,show u = [_,_,_] from v3_ok hn]) hi hj hk l1 l2
theorem ttR_sh {es:IEs} {x:EX} {G:Prop} (h:ttR F.sc es x = true) (g:∀ e1 e2 e3 n2 p5,x = .Tuple [e1,e2,e3] n2 p5->isStar e1 = false->isStar e2 = false->isStar e3 = false->([e1,e2,e3].all (foldedForSure 8)) = false->([e1,e2,e3].all (constantsAlone 8)) = false->chkEs F.sc es [e1,e2,e3] = true->G):G:=by
 obtain ⟨⟨w,n2,p5⟩,hw2,hr⟩:=opt_inv h
 obtain ⟨hr,hes⟩:=and_inv hr
 obtain ⟨hr,f2⟩:=and_inv hr
 obtain ⟨hr,f1⟩:=and_inv hr
 obtain ⟨⟨e1,e2,e3⟩,he3,hr⟩:=opt_inv hr
 obtain ⟨hA,g3⟩:=and_inv hr
 cases (show w = _ from v3_ok he3)
 exact vTup_ok hw2 fun hw2=>g e1 e2 e3 n2 p5 hw2 (not_inv (and_inv hA).1) (not_inv (and_inv hA).2) (not_inv g3) (not_inv f1) (not_inv f2) hes
theorem three_le:3 <= sizeLine:=by rw [sizeLine_eq]; decide
theorem tt_run {xa xb xd:Str} {p1 p2 p4 p3 p5 pos:Pos} {nn n2:Nat} {e1 e2 e3:EX} {i j k:Nat} {es:IEs} {m:SV} {l:Lc} {s:Shared} {sf:Stem} {P:QS} {Q:FS} {E:PR} (X:ActS F labC outer)
 (hi:isLoc F.sc i xa = true) (hj:isLoc F.sc j xb = true) (hk:isLoc F.sc k xd = true) (l1:(p2.line == p1.line) = true) (l2:(p4.line == p1.line) = true) (dij:i ≠ j) (dik:i ≠ k) (djk:j ≠ k) (g1:isStar e1 = false) (g2:isStar e2 = false) (g3:isStar e3 = false)
 (f1:([e1,e2,e3].all (foldedForSure 8)) = false) (f2:([e1,e2,e3].all (constantsAlone 8)) = false) (hes:chkEs F.sc es [e1,e2,e3] = true) (S:F.St s m l sf) (hw:wpEs F.C es l sf (asgTTK [i,j,k] l P)) (hq:OutS F labC s P Q E) :
 wpAny F.M F.A (exec (.Assign [.Tuple [.Name xa p1,.Name xb p2,.Name xd p4] nn p3] (.Tuple [e1,e2,e3] n2 p5) pos) F.env) Q E s:=by
 have ne:∀ {a b:Nat} {x y:Str},isLoc F.sc a x = true->isLoc F.sc b y = true->a ≠ b->x ≠ y:=fun h1 h2 h e=>h (nodup_at X.hu (by rw [e] at h1; exact (loc_spec h1).2.2) (loc_spec h2).2.2)
 rw [arm_exec_Assign]
 refine wpAny_bind (wpAny_standAt ?_)
 rw [hsw1,swaps_no rfl]
 refine wpAny_bind (wpAny_pure ?_)
 rw [if_neg fT]
 refine wpAny_bind (wpAny_Tuple (((sndAll X.toAct).2 es).1 _ hes m l s sf p5 _ _ E S hw fun vs s1 ys t1 hv hlen T1 r1=>?_))
 refine ex3 (wSet3 hv) fun v1 v2 v3 h=>an2 h fun ev hv=>?_
 subst ev
 refine ex3 (vrs3 r1) fun y1 y2 y3 h=>an4 h fun ey ra rb rc=>?_
 subst ey
 refine ⟨three_le,?_⟩
 have T2:=pushed T1.st { cls:=.type "tuple",data:=.seq [y1,y2,y3].toArray }
 rw [hst3 X.hk hi hj hk g1 g2 g3 l1 l2 (ne hi hj dij) (ne hi hk dik) (ne hj hk djk) f1 f2]
 refine wpAny_bind (wpAny_pure ?_)
 refine assign_swapped (unpack3 T2.st.hd ⟨_,Heap.get?_push_size _ rfl,rfl,_,rfl⟩ fun h' hx=>?_)
 have T3:=Fx.To.keep T2.st (t:=t1.toks) (Step.extBut hx) T2.st.tk
 have T:=T2.trans T3
 refine inOrder3 (wpAny_bindName (p_store X.toAct T3.st hk (T.up rc) fun t3 G3=>?_))
 refine wpAny_bindName (p_store X.toAct G3.st hj (G3.up T3.st (T.up rb)) fun t4 G4=>?_)
 refine wpAny_bindName (p_store X.toAct G4.st hi (G4.up G3.st (G3.up T3.st (T.up ra))) fun t5 G5=>?_)
 rw [List.set_comm _ _ (Ne.symm djk),List.set_comm _ _ (Ne.symm dik),List.set_comm (l:=l) _ _ (Ne.symm dij)] at G5
 exact hq _ _ _ hv t5 _ ((T1.trans T).go.after (G3.after (G4.after G5)))
theorem sndS_asgnTT {is:List Nat} {es:IEs} (X:ActS F labC outer):SndS F labC (.asgnTT is es):=by
 intro st h n m l s sf P Q E S hw hq
 obtain ⟨⟨ts,x⟩,hp,h⟩:=opt_inv h
 obtain ⟨⟨i,j,k⟩,hij,h⟩:=opt_inv h
 obtain ⟨h,hr⟩:=and_inv h
 obtain ⟨ht,h⟩:=and_inv h
 obtain ⟨hA,d3⟩:=and_inv h
 cases v3_ok hij
 refine sAssign_ok hp fun pos he=>tgt3_sh ht fun xa xb xd p1 p2 p4 nn p3 ht hi hj hk l1 l2=>ttR_sh hr fun e1 e2 e3 n2 p5 hx g1 g2 g3 f1 f2 hes=>?_
 rw [he,ht,hx]
 exact tt_run X hi hj hk l1 l2 (of_decide_eq_true (and_inv hA).1) (of_decide_eq_true (and_inv hA).2) (of_decide_eq_true d3) g1 g2 g3 f1 f2 hes S hw hq
end
end Mine
end
noncomputable section
open PySem PySem.W PyProof.Rows PySem.Calls Builtin Builtin.Str
set_option Elab.async false
set_option autoImplicit false
set_option maxRecDepth 100000
set_option linter.all false
set_option genInjectivity false
set_option genSizeOf false
set_option bootstrap.genMatcherCode false
namespace Mine
section
variable {F:Fx} {labC:Lab->Addr} {outer:List Env}
inductive PairsAt (c:Cx) (h:Heap):List (T × T)->List Value->Prop
 | nil:PairsAt c h [] []
 | cons {a b:T} {r:List (T × T)} {ad:Addr} {u v:Tok} {ys:List Value} (hm:¬ c.mut ad) (ht:h.IsTuple ad [.str (tx a) u,.str (tx b) v].toArray) (hu:u ≠ 0) (hv:v ≠ 0) (huv:u ≠ v) (ha:a.length <= 10) (hb:b.length <= 10) (hr:PairsAt c h r ys):PairsAt c h ((a,b) :: r) (.ref ad :: ys)
theorem PairsAt.mv {c:Cx} {h h':Heap} {ps:List (T × T)} {ys:List Value} (k:∀ a o,¬ c.mut a->h.get? a = some o->(∀ vs,o.data ≠ .fields vs)->h'.get? a = some o /\ ¬ c.mut a) (r:PairsAt c h ps ys):PairsAt c h' ps ys:=by
 induction r with
 | nil=>exact .nil
 | cons hm ht hu hv huv ha hb _ ih =>
  obtain ⟨o,ho,hc,n,hd⟩:=ht
  exact .cons hm ⟨o,(k _ o hm ho (by rw [hd]; exact fun vs z=>nomatch z)).1,hc,n,hd⟩ hu hv huv ha hb ih
theorem PairsAt.len {c:Cx} {h:Heap} {ps:List (T × T)} {ys:List Value} (r:PairsAt c h ps ys):ys.length = ps.length:=by
 induction r with
 | nil=>rfl
 | cons _ _ _ _ _ _ _ _ ih=>exact congrArg (· + 1) ih
theorem PairsAt.at_ {c:Cx} {h:Heap} {ps:List (T × T)} {ys:List Value} (r:PairsAt c h ps ys):∀ {j:Nat} {y:Value},ys[j]? = some y->∃ p ad u v,ps[j]? = some p /\ y = .ref ad /\ ¬ c.mut ad /\ h.IsTuple ad [Value.str (tx p.1) u,Value.str (tx p.2) v].toArray /\ u ≠ 0 /\ v ≠ 0 /\ u ≠ v /\ p.1.length <= 10 /\ p.2.length <= 10:=by
 induction r with
 | nil=>exact fun e=>nomatch e
 | cons hm ht hu hv huv ha hb _ ih =>
  intro j y e
  cases j with
  | zero=>cases e; exact ⟨_,_,_,_,rfl,rfl,hm,ht,hu,hv,huv,ha,hb⟩
  | succ j=>exact ih (j:=j) e
theorem str_sh {t:T} {e:EX} {G:Prop} (h:strOk t e = true) (k:∀ kd p,e = .Constant (.str (tx t)) kd p->t.length <= 10->G):G:=by
 obtain ⟨h,h2⟩:=and_inv h
 obtain ⟨c,hc,h⟩:=opt_inv h
 refine vConst_ok hc fun kd p he=>?_
 cases c with
 | str s=>exact k kd p (by rw [he,show s = tx t from Str.ext' (by rw [<- of_decide_eq_true (and_inv h).1])]) (of_decide_eq_true h2)
 | _=>exact absurd h fT
theorem pairs_spliced (hp:F.c.pos = true) {pos:Pos} {m:SV} {l:Lc} {sf:Stem} {E:PR}:∀ {ps:List (T × T)} {es:List EX} {s:Shared} {Q:List Value->Shared->Prop},
 pairsOk ps es = true->F.St s m l sf->(∀ ys s',F.St s' m l sf->Step F.c.fs [] s.heap s'.heap->PairsAt F.c s'.heap ps ys->Q ys s')->wpAny F.M F.A (spliced (backTo pos (starEach es F.env))) Q E s
 | [],es,s,Q,h1,S,h=>by
  cases nil_ok h1
  exact spliced_nil (h [] s S (Step.refl ..) .nil)
 |(a,b) :: ps,es,s,Q,h1,S,h=>by
  obtain ⟨⟨x,r⟩,hx,h3⟩:=opt_inv h1
  obtain ⟨h4,hr⟩:=and_inv h3
  obtain ⟨⟨u,k3,p3⟩,hu,h5⟩:=opt_inv h4
  obtain ⟨⟨ea,eb⟩,hy,h6⟩:=opt_inv h5
  obtain ⟨h7,h2⟩:=and_inv h6
  cases vCons_ok hx
  refine vTup_ok hu fun hu=>str_sh h7 fun k1 p1 ha la=>str_sh h2 fun k2 p2 hb lb=>?_
  rw [show x = .Tuple [.Constant (.str (tx a)) k1 p1,.Constant (.str (tx b)) k2 p2] k3 p3 by rw [show x = _ from hu,show u = [ea,eb] from v2_ok hy,show ea = _ from ha,show eb = _ from hb]]
  show wpAny F.M F.A (spliced ((false,eval (.Tuple [.Constant (.str (tx a)) k1 p1,.Constant (.str (tx b)) k2 p2] k3 p3) F.env) :: backTo pos (starEach r F.env))) Q E s
  refine spliced_cons (wpAny_Tuple ?_)
  show wpAny F.M F.A (spliced [(false,eval (.Constant (.str (tx a)) k1 p1) F.env),(false,eval (.Constant (.str (tx b)) k2 p2) F.env)]) _ E s
  refine spliced_cons (wpAny_Constant_str (spliced_cons (wpAny_Constant_str (spliced_nil ⟨by have:=sizeLine_eq; show 2 <= sizeLine; lia,?_⟩))))
  have S1:F.St { s with heap:=s.heap.push { cls:=.type "tuple",data:=.seq [Value.str (tx a) s.toks,Value.str (tx b) (s.toks + 1)].toArray },toks:=s.toks + 1 + 1 } m l sf:=S.keep (Step.push _ _ _ _) fun _=>Nat.succ_pos _
  refine pairs_spliced hp hr S1 fun ys s' S2 st2 r2=>h _ s' S2 ((Step.push _ _ _ _).trans st2) ?_
  have hpos:=S.tk hp
  exact PairsAt.cons (u:=s.toks) (v:=s.toks + 1) S.toSit.fresh (isTuple_keep (h:=s.heap.push { cls:=.type "tuple",data:=.seq [Value.str (tx a) s.toks,Value.str (tx b) (s.toks + 1)].toArray }) ⟨_,Heap.get?_push_size _ rfl,rfl,_,rfl⟩ fun o e=>st2.same _ o e (fun z=>S.toSit.fresh (.inl z)) fun z=>nomatch z) (Nat.ne_of_gt hpos) (Nat.succ_ne_zero _) (Nat.ne_of_lt (Nat.lt_succ_self _)) la lb r2
theorem go_tupleiter {elts:List EX} {x1:Nat} {pos:Pos} {I l T:Addr} {i:Nat} {s:Shared} {Q:Unit->Shared->Prop} {E:PR} {M:Model} {A:Around} (hit:s.heap.IsTupleIter I l i) (hQ:Q () s):wpAny M A (letOwnedTupleGo (.Tuple elts x1 pos) (.ref I) (.ref T)) Q E s:=by
 obtain ⟨o,ho,hc,hd⟩:=hit
 unfold letOwnedTupleGo
 refine wpAny_bind (wpAny_load ho ?_)
 rw [hc,hd]
 simp only
 split
 ·rename_i hh
  exfalso
  revert hh
  simp
 ·exact wpAny_pure hQ
noncomputable def replOk (s t b:T):Bool:=!t.isEmpty && !decide (t = b) && decide (b.length <= 10) && decide ((replAll t b s.length s).length <= lim)
theorem p_repl0 {w:World} {A:Around} {s t b:T} {t1 u v:Tok} {s1:Shared} {Q:PR} {E:PR} (hu:u ≠ 0) (hv:v ≠ 0) (huv:u ≠ v) (hs:s.length <= lim) (hm:replOk s t b = true)
 (hq:∀ k n,(replAll t b s.length s).length <= lim->s1.toks <= n->Q (.str (tx (replAll t b s.length s)) k) { s1 with toks:=n }):wpAny (model PG w) A (call (.builtin "str.replace") [.str (tx s) t1,.str (tx t) u,.str (tx b) v]) Q E s1:=by
 obtain ⟨hm,hl⟩:=and_inv hm
 obtain ⟨hm,hn3⟩:=and_inv hm
 obtain ⟨hn1,hn2⟩:=and_inv hm
 have hl:=of_decide_eq_true hl
 have hn3:=of_decide_eq_true hn3
 have hn2:=of_decide_eq_false (not_inv hn2)
 have hn1:t ≠ []:=fun e=>by rw [e] at hn1; cases hn1
 have e:=tx_repl s t b hn1
 have hb:(tx s).length + ((tx s).length + 1) * (tx b).length <= 16777216:=by
  rw [tx_len,tx_len]
  have h1:(s.length + 1) * b.length <= (lim + 1) * 10:=Nat.mul_le_mul (by lia) (by lia)
  have:lim + (lim + 1) * 10 <= 16777216:=by decide
  lia
 have hlT:tooLong ((tx s).length + (occurrences (tx s) (tx t) 0 (tx s).length ((tx s).length + 1)).length * (tx b).length) = false:=by
  have h1:=StrLaws.occ_length_le (tx s) (tx t) 0 (tx s).length ((tx s).length + 1)
  have h2:(occurrences (tx s) (tx t) 0 (tx s).length ((tx s).length + 1)).length * (tx b).length <= ((tx s).length + 1) * (tx b).length:=Nat.mul_le_mul_right _ h1
  unfold tooLong sizeLine
  exact decide_eq_false (by have:(2:Nat) ^ 24 = 16777216:=(by decide); lia)
 have hyz:(tx t == tx b) = false:=by rw [tx_beq]; exact decide_eq_false hn2
 refine call_gives PySem.F.slot_str_replace (typeIs_str _ _ _) PySem.F.entry_str_replace (PySem.F.args_str_replace_3 _ _ _) (gives_str_replace (tx s) (tx t) (tx b) t1 u v fun _=>⟨by simp [hu,hv],by simp [huv],hyz,hlT⟩) ?_
 unfold Txt.replace at e
 split
 ·rename_i hc
  rw [if_pos hc] at e
  show Q (.str (tx s) t1) s1
  rw [e]
  exact hq t1 s1.toks hl (Nat.le_refl _)
 ·rename_i hc
  rw [if_neg hc] at e
  rw [e]
  exact ⟨by rw [tx_len]; have:=lim_line; lia,hq _ _ hl (Nat.le_succ _)⟩
theorem p_repl {s t b:T} {t1 u v:Tok} {s1:Shared} {m:SV} {l:Lc} {sf:Stem} {Q:PR} {E:PR} (S:F.St s1 m l sf) (hu:u ≠ 0) (hv:v ≠ 0) (huv:u ≠ v) (hs:s.length <= lim) (hm:replOk s t b = true)
 (hq:∀ y s',VR F.c s'.heap (.str (replAll t b s.length s)) y->F.To s1 m l s' sf->Q y s'):wpAny F.M F.A (call (.builtin "str.replace") [.str (tx s) t1,.str (tx t) u,.str (tx b) v]) Q E s1 :=
 p_repl0 hu hv huv hs hm fun k n hl hn=>hq _ _ (.str _ _ hl) (.tok S n fun hp=>Nat.lt_of_lt_of_le (S.tk hp) hn)
end
end Mine
end
noncomputable section
open PySem PySem.W PyProof.Rows PySem.Calls
set_option Elab.async false
set_option autoImplicit false
set_option maxRecDepth 100000
set_option linter.all false
set_option genInjectivity false
set_option genSizeOf false
set_option bootstrap.genMatcherCode false
namespace Mine
section
variable {F:Fx} {labC:Lab->Addr} {outer:List Env}
theorem same_name {sc:Scope} {i:Nat} {x y:Str} (h1:isLoc sc i x = true) (h2:isLoc sc i y = true):x = y:=Option.some.inj ((loc_spec h1).2.2.symm.trans (loc_spec h2).2.2)
theorem repl_sh {w i j:Nat} {bs:List PySem.Stmt} {x y:Str} {G:Prop} (hi:isLoc F.sc i x = true) (hj:isLoc F.sc j y = true) (h:opt (v1 bs) (fun b=>opt (sAssign b) fun q=>tgt1 F.sc w q.1 &&
 metOk "replace" (fun o=>opt (vName o) (isLoc F.sc w)) (fun xs=>opt (v2 xs) fun x=>opt (vName x.1) (isLoc F.sc i) && opt (vName x.2) (isLoc F.sc j)) q.2) = true)
 (k:∀ z p1 p2 ap p3 p4 cp p5,bs = [.Assign [.Name z p1] (.Call (.Attribute (.Name z p2) "replace" ap) [.Name x p3,.Name y p4] [] cp) p5]->isLoc F.sc w z = true->(ap.endLine == cp.line) = true->G):G:=by
 obtain ⟨b,hb,h⟩:=opt_inv h
 obtain ⟨⟨ts,e⟩,hs,h⟩:=opt_inv h
 obtain ⟨h1,h2⟩:=and_inv h
 obtain ⟨t,ht,h1⟩:=opt_inv h1
 refine sAssign_ok hs fun p5 hs=>name_isLoc h1 fun z p1 hz hw=>met_sh h2 fun o ap cp xs he ho hline _ hx=>name_isLoc ho fun z' p2 hz' hw'=>?_
 obtain ⟨⟨a,d⟩,hxs,hx⟩:=opt_inv hx
 obtain ⟨hx1,hx2⟩:=and_inv hx
 refine name_isLoc hx1 fun x' p3 ha hi'=>name_isLoc hx2 fun y' p4 hd hj'=>k z p1 p2 ap p3 p4 cp p5 ?_ hw hline
 rw [v1_ok hb,hs,show ts = [t] from v1_ok ht,hz,show e = _ from he,hz',v2_ok hxs,show a = _ from ha,show d = _ from hd,same_name hw' hw,same_name hi' hi,same_name hj' hj]
theorem repl_body {x y w:Str} {wp1 wp2 xp yp ap cp apos:Pos} {i j kw:Nat} (X:ActS F labC outer) (hi:isLoc F.sc i x = true) (hj:isLoc F.sc j y = true) (hw:isLoc F.sc kw w = true)
 (hline:(ap.endLine == cp.line) = true) {a b s0:T} {u v:Tok} (hu:u ≠ 0) (hv:v ≠ 0) (huv:u ≠ v)
 {m:SV} {l:Lc} {s:Shared} {sf:Stem} {Q:FS} {E:PR} (S:F.St s m l sf) (mx:m x = some (.str (tx a) u)) (my:m y = some (.str (tx b) v)) (hl:l[kw]?.join = some (.str s0))
 (hr:replOk s0 a b = true) (h:∀ s' m',F.Go s s' m' (l.set kw (some (.str (replAll a b s0.length s0)))) sf->Q .next s') :
 wpAny F.M F.A (execs [.Assign [.Name w wp1] (.Call (.Attribute (.Name w wp2) "replace" ap) [.Name x xp,.Name y yp] [] cp) apos] F.env) Q E s:=by
 refine wpAny_execs_cons (wpAny_Assign_Name ?_ rfl)
 obtain ⟨gx1,gx2,gx3⟩:=loc_spec hi
 obtain ⟨gy1,gy2,gy3⟩:=loc_spec hj
 refine wpAny_Call_method rfl rfl hline PySem.F.plainAttrs_str PySem.F.slot_str_replace PySem.F.type_str_replace ?_
 refine p_loc S X.hk hw hl fun z ez rz=>?_
 obtain ⟨t,rfl,hlen⟩:=rz.str_inv
 refine ⟨typeIs_str _ _ _,fun a e=>(nomatch e),?_⟩
 refine callWith_machine rfl rfl ?_
 show wpAny F.M F.A (evalArgs _ true ((false,eval (.Name x xp) _) :: [(false,eval (.Name y yp) F.env)]) []) _ E s
 refine evalArgs_plain (spliced_cons (wpAny_Name (wpAny_loadName_local X.hk gx1 S.ns mx ?_) gx2))
 refine spliced_cons (wpAny_Name (wpAny_loadName_local X.hk gy1 S.ns my (spliced_nil ?_)) gy2)
 refine p_repl S hu hv huv hlen hr fun z s' rz T=>?_
 refine p_store X.toAct T.st hw rz fun t3 G3=>?_
 exact wpAny_execs_nil (h t3 _ (T.go.after G3))
theorem repl_loop {x y z:Str} {p1 p2 p3 q1 q2 q3 q4 q5 ap cp:Pos} {n1:Nat} {w i j:Nat} {ps:List (T × T)} {ys:List Value} {t1 s3:Shared} {I R:Addr} {m:SV} {l:Lc} {sf:Stem} {P:QS} {Q:FS} {E:PR} (X:ActS F labC outer)
 (hi:isLoc F.sc i x = true) (hj:isLoc F.sc j y = true) (hz:isLoc F.sc w z = true) (hline:(ap.endLine == cp.line) = true) (hxy:x ≠ y) (G3:F.Go t1 s3 m l sf) (it3:s3.heap.IsTupleIter I R 0) (hR3:s3.heap.IsTuple R ys.toArray) (r3:PairsAt F.c s3.heap ps ys)
 (hI0:t1.heap.get? I = none) (hIR:R ≠ I) (nmI:I ∉ F.c.fs /\ I ∉ F.L :: F.c.ds) (nmR:R ∉ F.c.fs /\ R ∉ F.L :: F.c.ds) (hH:F.c.H0.get? I = none) (hrep:wRepl w i j ps l (nextL P sf)) (h5:OutS F labC t1 P Q E) :
 codeAny F.M F.A (.forLoop (.Tuple [.Name x p1,.Name y p2] n1 p3) (.ref I) [.Assign [.Name z q1] (.Call (.Attribute (.Name z q2) "replace" ap) [.Name x q3,.Name y q4] [] cp) q5] [] F.env) (fun r s'=>match r with | .ok f=>Q f s' | .error e=>cameBackBy F.M F.A F.env E e s') s3:=by
 have lenY:=r3.len
 refine codeAny_forLoop_any (fun nn s'=>∃ jj m l,F.Go t1 s' m l sf /\ s'.heap.IsTupleIter I R jj /\ s'.heap.IsTuple R ys.toArray /\ PairsAt F.c s'.heap ps ys /\
  wRepl w i j (ps.drop jj) l (nextL P sf) /\ jj <= ps.length /\ nn = ps.length + 1 - jj) (fun nn s2 h=>ex3 h fun jj m2 l2 h=>an7 h fun G4 it4 hR4 r4 e4 hjj en=>?_) (ps.length + 1) ⟨0,m,l,G3,it3,hR3,r3,hrep,Nat.zero_le _,rfl⟩
 subst en
 refine ex1 it4 fun oI h=>an3 h fun hoI hcI hdI=>?_
 have GI:∀ {h':Heap},(∀ b o,b ≠ I->s2.heap.get? b = some o->h'.get? b = some o)->F.Go t1 { s2 with heap:=h',toks:=s2.toks } m2 l2 sf:=fun {h'} hk=>by
  have ne:∀ {b:Addr} {o:Obj},t1.heap.get? b = some o->b ≠ I:=fun e z=>by rw [z,hI0] at e; cases e
  exact ⟨G4.st.iter hoI hdI hH hk G4.st.tk,⟨fun b o e m n=>hk b o (ne e) (G4.to.same b o e m n),fun b o e m n=>by
   obtain ⟨sl,e'⟩:=G4.to.slot b o e m n
   exact ⟨sl,hk b _ (ne e) e'⟩⟩⟩
 rcases Nat.lt_or_ge jj ps.length with hltp | hge
 ·have hlt:jj < ys.length:=by omega
  refine wpAny_pyNext_tuple_item it4 hR4 (x:=ys[jj]) (by simp [hlt]) fun h' it5 hsb=>?_
  have hk:∀ b o,b ≠ I->s2.heap.get? b = some o->h'.get? b = some o:=fun b o hb e=>(hsb.2 b hb).trans e
  have G5:=GI hk
  have r5:PairsAt F.c h' ps ys:=r4.mv fun a o hm e hn=>⟨hk a o (fun z=>by rw [z,hoI] at e; cases e; exact hn _ hdI) e,hm⟩
  have hR5:h'.IsTuple R ys.toArray:=isTuple_keep hR4 fun o ho=>hk _ _ hIR ho
  refine ex4 (r5.at_ (List.getElem?_eq_getElem hlt)) fun pr ad u v h=>an9 h fun ea ey nm ht hu hv huv la lb=>?_
  rw [ey]
  rw [List.drop_eq_getElem_cons hltp,show ps[jj] = pr by rw [List.getElem?_eq_getElem hltp] at ea; exact Option.some.inj ea] at e4
  have l10:10 <= lim:=by decide
  refine go_tupleiter it5 (assign2 X hi hj G5.st ht (.str pr.1 u (by omega)) (.str pr.2 v (by omega)) fun t8 G8=>?_)
  obtain ⟨sv,hsv,e5⟩:=wOpt_inv e4
  obtain ⟨s0,rfl,e6⟩:=str1_inv e5
  refine repl_body X hi hj hz hline hu hv huv G8.st (by simp [hxy]) (by simp) hsv e6.t fun t9 m9 G9=>?_
  have GA:=G8.after G9
  refine ⟨ps.length + 1 - (jj + 1),by omega,jj + 1,m9,_,G5.after GA,?_,?_,r5.mv (GA.to.mv (Go.mut G5.st)),e6.p,hltp,rfl⟩
  ·obtain ⟨o,ho,r⟩:=it5
   exact ⟨o,GA.to.same _ _ ho nmI.1 nmI.2,r⟩
  ·exact isTuple_keep hR5 fun o e=>GA.to.same _ _ e nmR.1 nmR.2
 ·have hjn:jj = ps.length:=Nat.le_antisymm hjj hge
  subst hjn
  refine wpAny_pyNext_tuple_end G4.st.hd it4 hR4 (by simp [lenY]) fun h' hk=>?_
  rw [List.drop_length] at e4
  exact wpAny_execs_nil (h5 _ _ _ e4 _ m2 (GI hk))
theorem sndS_forRepl {w i j:Nat} {ps:List (T × T)} (X:ActS F labC outer):SndS F labC (.forRepl w i j ps):=by
 intro st h n m l s sf P Q E S hw hq
 obtain ⟨⟨tg,it,bs,o⟩,hp,h⟩:=opt_inv h
 obtain ⟨h,hps⟩:=and_inv h
 obtain ⟨h,d3⟩:=and_inv h
 obtain ⟨h,d2⟩:=and_inv h
 obtain ⟨h,d1⟩:=and_inv h
 obtain ⟨h,ho⟩:=and_inv h
 obtain ⟨h,hbs⟩:=and_inv h
 obtain ⟨htg,hit⟩:=and_inv h
 obtain ⟨⟨es,n2,p4⟩,hes,hit⟩:=opt_inv hit
 refine sFor_ok hp fun pos he=>tgt2_sh htg fun x y p1 p2 n1 p3 hx hi hj=>vTup_ok hes fun hit2=>repl_sh hi hj hbs fun z q1 q2 ap q3 q4 cp q5 hb hz hline=>?_
 rw [he,show tg = _ from hx,show it = _ from hit2,show bs = _ from hb,show o = [] from nil_ok ho]
 refine wpAny_For (wpAny_Tuple (pairs_spliced (X.lo' (not_inv hw.t)) hit S fun ys t1 S1 st1 r1=>⟨?_,?_⟩)) (fun _=>rfl)
 ·have:=r1.len
  have:=of_decide_eq_true hps
  have:=sizeLine_eq
  lia
 have T2:=pushed S1 { cls:=.type "tuple",data:=.seq ys.toArray }
 have hR:(t1.heap.push { cls:=.type "tuple",data:=.seq ys.toArray }).IsTuple t1.heap.objs.size ys.toArray:=⟨_,Heap.get?_push_size _ rfl,rfl,_,rfl⟩
 refine wpAny_pyIter_tuple hR ?_
 have T3:=pushed T2.st { cls:=.type "tuple_iterator",data:=.fields #[.ref t1.heap.objs.size,.int 0 0] }
 have hI0:t1.heap.get? (t1.heap.push { cls:=.type "tuple",data:=.seq ys.toArray }).objs.size = none:=Heap.get?_none_of_le (by rw [Heap.size_push]; exact Nat.le_succ _)
 refine repl_loop X hi hj hz hline (fun e=>of_decide_eq_true d1 (nodup_at X.hu (loc_spec hi).2.2 (by rw [e]; exact (loc_spec hj).2.2))) (T2.trans T3).go ⟨_,Heap.get?_push_size _ rfl,rfl,rfl⟩ (hR.push _) (r1.mv ((T2.trans T3).to.mv fun _ q=>q))
  hI0 (by rw [Heap.size_push]; exact Nat.ne_of_lt (Nat.lt_succ_self _)) (not_mut T2.st T2.st.toSit.fresh) (not_mut S1 S1.toSit.fresh) ?_ hw.p (hq.after ⟨S1,st1.wide fun _ q=>nomatch q⟩)
 cases z:F.c.H0.get? (t1.heap.push { cls:=.type "tuple",data:=.seq ys.toArray }).objs.size with
 | none=>rfl
 | some o=>have:=S1.base _ _ z; rw [hI0] at this; cases this
theorem sndSs (X:ActS F labC outer):∀ ir:ISs,SndSs F labC ir:=fun ir=>ISs.rec (motive_1:=fun ir=>SndS F labC ir) (motive_2:=fun ir=>SndSs F labC ir)
 (fun i e=>sndS_asgn X) (fun i f e=>sndS_asgnF X) (fun is e=>sndS_asgnT X) (fun is es=>sndS_asgnTT X) (fun i op e=>sndS_augL X) (fun i f op e=>sndS_augF X) (fun d a b ha hb=>sndS_if X ha hb) (fun d b hb=>sndS_whl X hb)
 (fun i a b d bd hb=>sndS_forR X hb) (fun i e b hb=>sndS_forL X hb) (fun w i j ps=>sndS_forRepl X) (fun b k hb=>sndS_try X hb) (fun k=>sndS_raise X) (fun e=>sndS_ret X) sndS_brk sndS_cont (fun st h=>absurd h fT) (fun e=>sndS_expr X) (fun e=>sndS_assert X)
 sndSs_nil (fun a r ha hr=>sndSs_cons ha hr) ir
end
structure FnAt (H:Heap) (f:Addr) (sc:Scope) (body:List Stmt) (ir:IFn) (names:List Str) (q:Str) (cd:Value):Prop where
 obj:∃ o fd,H.get? f = some o /\ o.data = .func fd /\ fd.body = .stmts body /\ fd.scope = sc /\ fd.globals = mainGlobals /\ fd.closure = [] /\ fd.builtins = builtinsNs /\ fd.qualname = q /\ fd.code = cd /\
  ∀ vs:List Value,vs.length = names.length->bindArgs fd ⟨vs,[]⟩ = pure (names.zip vs)
 code:H.CodeRec cd q
 co:sc.isCoroutine = false
 gen:sc.isGenerator = false
 kind:sc.kind = .function
 cell:∀ x ∈ sc.names,x.2 ≠ .cell
 chk:chkSs sc ir.body body = true
 np:names.length = ir.np
 nl:ir.nl = (locsOf sc).length
 le:ir.np <= ir.nl
 pre:∀ i,i < ir.np->(locsOf sc)[i]? = names[i]?
 nodup:(locsOf sc).Nodup
 loc:∀ x ∈ names,sc.names.lookup x = some .local
theorem lookup_zip:∀ {names:List Str} {vs:List Value} {i:Nat} {n:Str} {v:Value},names.Nodup->names[i]? = some n->vs[i]? = some v->(names.zip vs).reverse.lookup n = some v
 | [],_,_,_,_,_,h,_=>nomatch h
 | a :: names,vs,i,n,v,hn,h1,h2=>by
  cases vs with
  | nil=>cases h2
  | cons y vs =>
   rw [List.zip_cons_cons,List.reverse_cons,List.lookup_append]
   cases i with
   | zero =>
    cases h1; cases h2
    have:(names.zip vs).reverse.lookup a = none:=by
     rw [List.lookup_eq_none_iff]
     intro p hp
     have:=(List.of_mem_zip (List.mem_reverse.mp hp)).1
     simp only [bne_iff_ne,ne_eq]
     first
      | exact fun e=>(List.nodup_cons.mp hn).1 (e ▸ this)
      | exact fun e=>(List.nodup_cons.mp hn).1 (e.symm ▸ this)
    rw [this]; simp
   | succ i=>rw [lookup_zip (i:=i) (List.nodup_cons.mp hn).2 h1 h2]; rfl
theorem enter {w:World} {A:Around} {H:Heap} {f:Addr} {sc:Scope} {body:List Stmt} {ir:IFn} {names:List Str} {q:Str} {cd:Value} {args:List Value} {s:Shared} {R:Result->Shared->Prop} (F:FnAt H f sc body ir names q cd) (hd:A.depth < 1000) (hs:H.StaysIn s.heap) (hl:H.NoLimit) (ha:args.length = names.length)
 (h:∀ h₀,h₀.Ns s.heap.objs.size (fun x=>(names.zip args).reverse.lookup x)->(∀ b o,s.heap.get? b = some o->h₀.get? b = some o) ->
  wpAny (model PG w) (A.deeper (envK q sc s.heap.objs.size f cd [])) (execs body (envK q sc s.heap.objs.size f cd [])) (fun fl s'=>R (.ok (.ret (match fl with | .ret v=>v | _=>.none))) s') (fun _ _=>False) { s with heap:=h₀,toks:=s.toks + (names.zip args).length }) :
 codeAny (model PG w) A (.call (.ref f) ⟨args,[]⟩) R s:=by
 obtain ⟨o,fd,ho,hd',hb,hsc,hgl,hcl,hbi,hq,hcd,hbind⟩:=F.obj
 have henv:callEnv fd s.heap.objs.size f = envK q sc s.heap.objs.size f cd []:=by
  unfold callEnv newEnv envK envOf
  rw [hsc,hgl,hcl,hbi,hq,hcd]
 refine codeAny_call_def (binds:=names.zip args) hd (hs _ _ ho) hd' (hl.keeps hs) (by rw [hcd,hq]; exact F.code.keeps hs) hb (BindsTo.of_eq (hbind args ha)) (by rw [hsc]; exact F.cell)
  (fun x hx=>by rw [hsc]; exact F.loc _ (List.of_mem_zip hx).1) (fun h₀ hns hk=>?_) (by rw [hsc]; exact F.co) (by rw [hsc]; exact F.gen) (by rw [hsc]; exact F.kind)
 rw [henv]
 exact wpAny_mono (h h₀ hns hk) (fun _ _ z=>z) fun _ _ z=>z.elim
section
variable {c:Cx} {K:Frag} {C:Tbl} {k:Nat} {labC:Lab->Addr} {envs:List Env} {A:Around} {s s':Shared} {sf sf':Stem} {env:Env} {h₀:Heap} {p:Bool}
theorem not_new {a:Addr} (h:a ∉ Cx.fs { c with envs:=envs }) (he:∃ o,s.heap.get? a = some o) (hL:env.frame = some s.heap.objs.size):a ∉ Cx.fs { c with envs:=env :: envs,pos:=p }:=fun z=>by
 have e:Cx.fs { c with envs:=env :: envs,pos:=p } = s.heap.objs.size :: Cx.fs { c with envs:=envs }:=by unfold Cx.fs; rw [List.filterMap_cons,hL]
 rw [e] at z
 rcases List.mem_cons.mp z with e | z
 ·obtain ⟨o,ho⟩:=he
  exact Nat.lt_irrefl _ (e ▸ Heap.lt_size ho)
 ·exact h z
theorem fs_tail {a:Addr} (h:a ∈ Cx.fs { c with envs:=envs }):a ∈ Cx.fs { c with envs:=env :: envs,pos:=p }:=by
 unfold Cx.fs at h ⊢
 rw [List.filterMap_cons]
 split
 ·exact h
 ·exact List.mem_cons_of_mem _ h
theorem Sit.deeper {m:SV} {t:Nat} (S:Sit { c with envs:=envs } A s sf) (hL:env.frame = some s.heap.objs.size) (hm:env.scope.kind = .function) (hns:h₀.Ns s.heap.objs.size m) (hk:∀ b o,s.heap.get? b = some o->h₀.get? b = some o) (ht:p = true->0 < t) :
 Sit { c with envs:=env :: envs,pos:=p } (A.deeper env) { s with heap:=h₀,toks:=t } sf:=by
 refine ⟨fun b o e=>hk b o (S.base b o e),Around.frames_deeper S.frm,S.hd,fun e' he'=>?_,S.gens,S.os,S.dr,⟨fun x d hx=>?_⟩,ht⟩
 ·rcases List.mem_cons.mp he' with rfl | he'
  ·obtain ⟨oL,es,ep,hoL,hdL,_⟩:=hns
   refine ⟨by rw [hm]; decide,_,oL,es,ep,hL,?_,hoL,hdL⟩
   cases z:c.H0.get? s.heap.objs.size with
   | none=>rfl
   | some o=>exact absurd (Heap.lt_size (S.base _ _ z)) (Nat.lt_irrefl _)
  ·obtain ⟨g1,L',o',es,n,g2,g3,g4,g5⟩:=S.fr e' he'
   exact ⟨g1,L',o',es,n,g2,g3,hk _ _ g4,g5⟩
 ·obtain ⟨g1,g2,g3,g4,g5,g6,mA,g7,g8⟩:=S.slf.at_ x d hx
  have hd':∃ od,s.heap.get? d = some od:=by obtain ⟨od,_,_,z,_⟩:=g7; exact ⟨od,z⟩
  exact ⟨not_new g1 ⟨_,g6⟩ hL,not_new g2 hd' hL,g3,g4,g5,hk _ _ g6,mA,ns1_up g7 fun o e=>⟨o.slots,hk _ _ e⟩,g8⟩
theorem VRs.deeper {vs:List V} {args:List Value} (r:VRs { c with envs:=envs } s.heap vs args) (hL:env.frame = some s.heap.objs.size) (hk:∀ b o,s.heap.get? b = some o->h₀.get? b = some o):VRs { c with envs:=env :: envs,pos:=p } h₀ vs args :=
 r.mv (c:={ c with envs:=envs }) (c':={ c with envs:=env :: envs,pos:=p }) rfl rfl rfl rfl fun a o hm ho _=>⟨hk a o ho,fun z=>z.elim (fun z=>not_new (fun z=>hm (.inl z)) ⟨o,ho⟩ hL z) fun z=>hm (.inr z)⟩
theorem VR.up {v:V} {y:Value} {h:Heap} (r:VR { c with envs:=env :: envs,pos:=p } h v y):VR { c with envs:=envs } h v y :=
 r.mv (c:={ c with envs:=env :: envs,pos:=p }) (c':={ c with envs:=envs }) rfl rfl rfl rfl fun a o hm ho _=>⟨ho,fun z=>hm (z.imp fs_tail id)⟩
theorem Sit.back {L:Addr} (S:Sit { c with envs:=envs } A s sf) (hLg:s.heap.objs.size = L) (hL:env.frame = some L) (hk:∀ b o,s.heap.get? b = some o->h₀.get? b = some o) (hp1:c.pos = true->p = true) (S3:Sit { c with envs:=env :: envs,pos:=p } (A.deeper env) s' sf')
 (st:Step (Cx.fs { c with envs:=env :: envs,pos:=p }) (L :: c.ds) h₀ s'.heap):Sit { c with envs:=envs } A s' sf' /\ Step (Cx.fs { c with envs:=envs }) c.ds s.heap s'.heap:=by
 subst hLg
 have nd:∀ {b:Addr} {o:Obj},s.heap.get? b = some o->b ∉ c.ds->b ∉ s.heap.objs.size :: c.ds:=fun e n z=>(List.mem_cons.mp z).elim (Nat.ne_of_lt (Heap.lt_size e)) n
 refine ⟨⟨S3.base,S.frm,S.hd,fun e' he'=>S3.fr e' (List.mem_cons_of_mem _ he'),S3.gens,S3.os,S3.dr,⟨fun x d hx=>?_⟩,fun z=>S3.tk (hp1 z)⟩,fun b o e m n=>?_,fun b o e m n=>?_⟩
 ·obtain ⟨g1,g2,g3⟩:=S3.slf.at_ x d hx
  exact ⟨fun z=>g1 (fs_tail z),fun z=>g2 (fs_tail z),g3⟩
 ·exact st.same b o (hk b o e) (not_new m ⟨o,e⟩ hL) (nd e n)
 ·exact st.slot b o (hk b o e) (fs_tail m) (nd e n)
theorem callee_of {f:Addr} {sc:Scope} {body:List Stmt} {ir:IFn} {names:List Str} {q:Str} {cd:Value} {n:Nat} (F:FnAt c.H0 f sc body ir names q cd) (p:Bool) (hp1:c.pos = true->p = true) (hp2:p = true->c.pos = true \/ names ≠ [])
 (O:KOk K c.FC c.AC) (X:K.In c.H0) (T:TblOk { c with pos:=p } K C k) (lists:∀ n,c.H0.get? n = none->n ≠ sysModules) (lo:C.loose = true->p = false) (lo':C.loose = false->p = true)
 (lab:∀ k,nsIn K mainGlobals (lnm k) = some (some (.ref (labC k))) /\ LabAt c.H0 (labC k)) (lim0:c.H0.NoLimit):Callee c (k + 1) f (runI C n ir):=by
 refine ⟨let ⟨o,fd,ho,hd,_⟩:=F.obj; ⟨o,fd,ho,hd⟩,fun envs A s sf vs args P Q E S hroom rv hrun h=>?_⟩
 have hvs:vs.length = ir.np:=Nat.eq_of_beq_eq_true hrun.t
 have hargs:args.length = names.length:=by rw [rv.len,hvs,F.np]
 have hnames:names.Nodup:=by
  have:names = (locsOf sc).take ir.np:=by
   apply List.ext_getElem?
   intro i
   by_cases hi:i < ir.np
   ·rw [<- F.pre i hi,List.getElem?_take_of_lt hi]
   ·rw [List.getElem?_eq_none (by rw [F.np]; lia),List.getElem?_eq_none (by simp; lia)]
  rw [this]; exact F.nodup.sublist (List.take_sublist _ _)
 refine wpAny_call (enter (R:=fun r s'=>match r with | .ok (.ret v)=>Q v s' | .ok _=>False | .error e=>E e s') F (Nat.lt_of_le_of_lt (Nat.le_trans (Nat.le_add_right _ _) hroom) (by decide)) S.base lim0 hargs fun h₀ hns hk=>?_)
 have hzl:(names.zip args).length = names.length:=by rw [List.length_zip,hargs,Nat.min_self]
 generalize hLg:s.heap.objs.size = L at hns ⊢
 have hL:(envK q sc L f cd []).frame = some s.heap.objs.size:=hLg ▸ rfl
 have S1:=S.deeper (p:=p) (t:=s.toks + (names.zip args).length) hL F.kind (hLg ▸ hns) hk fun hpp=>by
  rcases hp2 hpp with z | z
  ·exact Nat.lt_of_lt_of_le (S.tk z) (Nat.le_add_right _ _)
  ·rw [hzl]
   cases names with
   | nil=>exact absurd rfl z
   | cons=>exact Nat.succ_pos _
 have rv':=rv.deeper (p:=p) (h₀:=h₀) hL hk
 let Fr:Fx:=⟨{ c with envs:=envK q sc L f cd [] :: envs,pos:=p },K,C,k,A.deeper (envK q sc L f cd []),sc,L,q,f,cd,[]⟩
 have S2:Fr.St { s with heap:=h₀,toks:=s.toks + (names.zip args).length } (fun x=>(names.zip args).reverse.lookup x) (vs.map some ++ List.replicate (ir.nl - ir.np) none) sf:=by
  refine ⟨S1,hns,List.mem_cons_self,⟨?_,fun i n e v' hv'=>?_⟩⟩
  ·show (vs.map some ++ List.replicate (ir.nl - ir.np) none).length = (locsOf sc).length
   rw [List.length_append,List.length_map,List.length_replicate,hvs,<- F.nl]; exact Nat.add_sub_cancel' F.le
  ·by_cases hi:i < vs.length
   ·rw [List.getElem?_append_left (by rw [List.length_map]; exact hi),List.getElem?_map] at hv'
    cases hvi:vs[i]? with
    | none=>rw [hvi] at hv'; cases hv'
    | some w =>
     rw [hvi] at hv'
     cases hv'
     obtain ⟨y,ey,ry⟩:=rv'.get hvi
     exact ⟨y,lookup_zip hnames ((F.pre i (hvs ▸ hi)).symm.trans e) ey,ry⟩
   ·rw [List.getElem?_append_right (by rw [List.length_map]; exact Nat.le_of_not_lt hi),List.getElem?_replicate] at hv'
    split at hv' <;> cases hv'
 have X':ActS Fr labC envs :=
  { O:=O,X:=X,T:=⟨T.fn,T.mt,T.short,T.tab,T.cls⟩,hk:=F.kind,hu:=F.nodup,room:=by show A.depth + 1 + k <= 900; rw [Nat.add_assoc,Nat.add_comm 1 k]; exact hroom,lists:=lists,lo:=lo,lo':=lo',hc:=rfl,lab:=lab }
 refine sndSs X' ir.body body F.chk n _ _ _ sf _ _ _ S2 hrun.p fun fl l' s1 hf=>?_
 have fin:∀ s' m' y w,Fr.Go { s with heap:=h₀,toks:=s.toks + (names.zip args).length } s' m' l' s1->VR Fr.c s'.heap w y->P w s1->Q y s':=fun s' m' y w G ry hp=>by
  obtain ⟨g1,g2⟩:=S.back hLg rfl hk hp1 G.st.toSit G.to
  exact h w s1 y s' hp g1 g2 ry.up
 cases fl with
 | next=>exact fun s' m' G=>fin s' m' .none .none G .none hf
 | ret w=>exact fun s' m' y G ry=>fin s' m' y w G ry hf
 | _=>exact hf.elim
end
noncomputable def constE (e:EX):Option Str:=(vConst e).bind fun c=>match c with
 | .str x=>some x
 | _=>none
noncomputable def constsB:List EX->Option (List Str)
 | []=>some []
 | e :: es=>(constE e).bind fun x=>(constsB es).map (x :: ·)
theorem constE_ok {e:EX} {x:Str} (h:constE e = some x):∃ k p,e = .Constant (.str x) k p:=by
 obtain ⟨c,h1,h2⟩:=Option.bind_eq_some_iff.mp h
 exact vConst_ok h1 fun k p he=>by
  cases c with
  | str y=>cases Option.some.inj h2; exact ⟨k,p,he⟩
  | _=>exact none_ne h2
theorem consts_of {es:List EX}:∀ {xs:List Str},constsB es = some xs->Consts es xs:=by
 induction es with
 | nil=>intro xs h; cases Option.some.inj h; exact .nil
 | cons e es ih =>
  intro xs h
  obtain ⟨x,h0,h⟩:=Option.bind_eq_some_iff.mp (show ((constE e).bind fun x=>(constsB es).map (x :: ·)) = some xs from h)
  obtain ⟨k,p,rfl⟩:=constE_ok h0
  obtain ⟨ys,h1,rfl⟩:=Option.map_eq_some_iff.mp h
  exact .cons x k p (ih h1)
noncomputable def passS:Stmt:=.Pass ⟨0,0,0,0⟩
noncomputable def nthFS (i:Nat):Stmt:=bodyFS[i]?.getD passS
noncomputable def npOf (s:Stmt):Pos:=(sAssign s).elim ⟨0,0,0,0⟩ fun p=>(p.1.map (·.pos)).headD ⟨0,0,0,0⟩
noncomputable def setE (e:EX):List EX:=by
 cases e with
 | Set es=>exact es
 | _=>exact []
noncomputable def esOf (s:Stmt):List EX:=(sAssign s).elim [] fun p=>setE p.2
noncomputable def posOf (s:Stmt):Pos:=(sAssign s).elim ⟨0,0,0,0⟩ (·.2.pos)
noncomputable def apOf (s:Stmt):Pos:=s.pos
@[irreducible] noncomputable def restFS:List Stmt:=bodyFS.drop 4
noncomputable def dispS (x:Str) (i:Nat):Stmt:=.Assign [.Name x (npOf (nthFS i))] (.Set (esOf (nthFS i)) 0 (posOf (nthFS i))) (apOf (nthFS i))
theorem bodyFS_eq:bodyFS = dispS "g_v" 0 :: dispS "g_oux_ending" 1 :: dispS "g_elision_char" 2 :: dispS "g_keep_with_s" 3 :: restFS:=by kernel_rfl
noncomputable def xs0:List Str:=gvL.map tx
noncomputable def xs1:List Str:=ouxL.map tx
noncomputable def xs2:List Str:=eliL.map tx
noncomputable def xs3:List Str:=kwsL.map tx
theorem consts0:Consts (esOf (nthFS 0)) xs0:=consts_of (by kernel_rfl)
theorem consts1:Consts (esOf (nthFS 1)) xs1:=consts_of (by kernel_rfl)
theorem consts2:Consts (esOf (nthFS 2)) xs2:=consts_of (by kernel_rfl)
theorem consts3:Consts (esOf (nthFS 3)) xs3:=consts_of (by kernel_rfl)
theorem roads:(displayRoad 0 (esOf (nthFS 0)),displayRoad 0 (esOf (nthFS 1)),displayRoad 0 (esOf (nthFS 2)),displayRoad 0 (esOf (nthFS 3))) = (.unsure,.unsure,.unsure,.unsure):=by kernel_rfl
theorem lens:(xs0.length,xs1.length,xs2.length,xs3.length) = (17,6,8,6):=rfl
noncomputable def sA (w:World):HSt:=(cA w).s
@[irreducible] noncomputable def s1 (w:World) (a:Hole):HSt:=afterDisp w (envA w) "g_v" xs0.length (sA w) a
@[irreducible] noncomputable def s2 (w:World) (a b:Hole):HSt:=afterDisp w (envA w) "g_oux_ending" xs1.length (s1 w a) b
@[irreducible] noncomputable def s3 (w:World) (a b c:Hole):HSt:=afterDisp w (envA w) "g_elision_char" xs2.length (s2 w a b) c
@[irreducible] noncomputable def s4 (w:World) (a b c d:Hole):HSt:=afterDisp w (envA w) "g_keep_with_s" xs3.length (s3 w a b c) d
noncomputable def fieldsOk (o:Obj):Bool:=match o.data with
 | .fields _=>true
 | _=>false
noncomputable def codeOk (s:HSt):Bool:=(s.T.get 228).any fieldsOk
theorem codeOk_spec {s:HSt} (h:codeOk s = true):∃ o vs,s.T.get 228 = some o /\ o.data = .fields vs:=by
 obtain ⟨o,e,h⟩:=(Option.any_eq_true _ _).mp h
 obtain ⟨c,d,dt,sl⟩:=o
 cases dt with
 | fields vs=>exact ⟨_,vs,e,rfl⟩
 | _=>exact absurd h fT
theorem factsD (w:World) :
 ((∀ o,(((sA w).T.ins (sA w).n o).get (sA w).n).isSome = true) /\ Nat.ble 229 (sA w).n = true /\ codeOk (sA w) = true /\
  ∀ hl Γ p,runH w.params 30 ⟨storeT (envA w) "g_v" (sA w).n,Γ,p,[],withHole (sA w) xs0.length hl⟩ = some (.next,s1 w hl)) /\
 (∀ a,(∀ o,(((s1 w a).T.ins (s1 w a).n o).get (s1 w a).n).isSome = true) /\ Nat.ble 229 (s1 w a).n = true /\ codeOk (s1 w a) = true /\
  ∀ hl Γ p,runH w.params 30 ⟨storeT (envA w) "g_oux_ending" (s1 w a).n,Γ,p,[],withHole (s1 w a) xs1.length hl⟩ = some (.next,s2 w a hl)) /\
 (∀ a b,(∀ o,(((s2 w a b).T.ins (s2 w a b).n o).get (s2 w a b).n).isSome = true) /\ Nat.ble 229 (s2 w a b).n = true /\ codeOk (s2 w a b) = true /\
  ∀ hl Γ p,runH w.params 30 ⟨storeT (envA w) "g_elision_char" (s2 w a b).n,Γ,p,[],withHole (s2 w a b) xs2.length hl⟩ = some (.next,s3 w a b hl)) /\
 (∀ a b c,(∀ o,(((s3 w a b c).T.ins (s3 w a b c).n o).get (s3 w a b c).n).isSome = true) /\ Nat.ble 229 (s3 w a b c).n = true /\ codeOk (s3 w a b c) = true /\
  ∀ hl Γ p,runH w.params 30 ⟨storeT (envA w) "g_keep_with_s" (s3 w a b c).n,Γ,p,[],withHole (s3 w a b c) xs3.length hl⟩ = some (.next,s4 w a b c hl)) /\
 (Nat.ble (frameCount (cA w).Γ.below + (cA w).Γ.code.weight) 500 = true /\ Nat.ble (cA w).Γ.units 500 = true):=by
 refine ⟨⟨fun o=>?_,?_,?_,fun hl Γ p=>?_⟩,fun a=>⟨fun o=>?_,?_,?_,fun hl Γ p=>?_⟩,fun a b=>⟨fun o=>?_,?_,?_,fun hl Γ p=>?_⟩,fun a b c=>⟨fun o=>?_,?_,?_,fun hl Γ p=>?_⟩,?_,?_⟩
 all_goals kernel_rfl
theorem blockStart_no {b:List Stmt} {env:Env} (h1:hasAnns b = false) (h2:env.scope.kind = .class) (h3:docOf b = none):blockStart b env = pure ():=by
 unfold blockStart
 have hi:interactive env = false:=by unfold interactive; rw [h2]; rfl
 rw [h1,hi,h3]
 rfl
theorem lens3:3 <= xs0.length /\ xs0.length <= 30 /\ 3 <= xs1.length /\ xs1.length <= 30 /\ 3 <= xs2.length /\ xs2.length <= 30 /\ 3 <= xs3.length /\ xs3.length <= 30:=by
 have h:=lens
 simp only [Prod.mk.injEq] at h
 lia
theorem scope_cls:scopeFS.kind = .class:=by kernel_rfl
theorem bodies:(hasAnns bodyFS,hasAnns restFS) = (false,false):=by kernel_rfl
theorem docs:docOf bodyFS = none /\ docOf restFS = none:=⟨by kernel_rfl,by kernel_rfl⟩
theorem swaps_set {es:List EX} {p:Pos} {t:Option EX} {l:Nat} {env:Env}:swapsWith (.Set es 0 p) t l env = pure false:=by rfl
noncomputable def cfgB (w:World) (a b c d:Hole) (p:Pos):Cfg:=⟨den (.body restFS (envA w)),(cA w).Γ,p,(cA w).K,s4 w a b c d⟩
noncomputable def ATop (Γ:Ctx):Around:={ handled:=Γ.handled,depth:=500,frames:=none,guards:=none,units:=500 }
theorem topChain {w:World} {os:OsState} {R:Result->Shared->Prop}
 (k:∀ a b c d,SetHole w xs0 a.obj->SetHole w xs1 b.obj->SetHole w xs2 c.obj->SetHole w xs3 d.obj->∀ p,cWp w os R (cfgB w a b c d p)):cWp w os R (cfg0 w):=by
 obtain ⟨f1,f2,f3⟩:=factsA w
 obtain ⟨⟨d1,d2,d3,d4⟩,e,f,g,hG1,hG2⟩:=factsD w
 simp only [Prod.mk.injEq] at f2
 have hcode:(envA w).code = .ref 228:=f2.2.1
 have hbs:blockStart bodyFS (envA w) = pure ():=blockStart_no (congrArg Prod.fst bodies) (by rw [f2.1]; exact scope_cls) docs.1
 have hbr:blockStart restFS (envA w) = pure ():=blockStart_no (congrArg Prod.snd bodies) (by rw [f2.1]; exact scope_cls) docs.2
 have hΓ:(cA w).Γ.In (ATop (cA w).Γ):=⟨rfl,Nat.le_of_ble_eq_true hG1,fun l hl=>(by cases hl),fun l hl=>(by cases hl),Nat.le_of_ble_eq_true hG2⟩
 have f1':goH w.params 1341 (cfg0 w) = some ⟨den (.body bodyFS (envA w)),(cA w).Γ,(cA w).p,(cA w).K,(cA w).s⟩:=by
  unfold cfgA at f1; exact f1
 refine go_sound rfl f1' ?_
 intro h X
 show wpF (MH w) (cA w).Γ (den (.body bodyFS (envA w))) (kWp (model PH w) R (cA w).K) (cA w).p ⟨h,#[],(cA w).s.drawn,(cA w).s.toks,os⟩
 rw [body_wpF hbs,bodyFS_eq]
 have es1:∀ a,s1 w a = afterDisp w (envA w) "g_v" xs0.length (sA w) a:=fun a=>by unfold s1; rfl
 have es2:∀ a b,s2 w a b = afterDisp w (envA w) "g_oux_ending" xs1.length (s1 w a) b:=fun a b=>by unfold s2; rfl
 have es3:∀ a b c,s3 w a b c = afterDisp w (envA w) "g_elision_char" xs2.length (s2 w a b) c:=fun a b c=>by unfold s3; rfl
 have es4:∀ a b c d,s4 w a b c d = afterDisp w (envA w) "g_keep_with_s" xs3.length (s3 w a b c) d:=fun a b c d=>by unfold s4; rfl
 have D0:DispAt w (envA w) "g_v" xs0 (sA w):=⟨d1,Nat.lt_of_lt_of_le (by decide) (Nat.le_of_ble_eq_true d2),codeOk_spec d3,fun hl Γ p=>by rw [<- es1]; exact d4 hl Γ p⟩
 refine disp_cons hΓ consts0 lens3.1 lens3.2.1 (congrArg (·.1) roads) hcode D0 swaps_set (fun a ha=>?_) _ h X
 obtain ⟨a1,a2,a3,a4⟩:=e a
 have D1:DispAt w (envA w) "g_oux_ending" xs1 (s1 w a):=⟨a1,Nat.lt_of_lt_of_le (by decide) (Nat.le_of_ble_eq_true a2),codeOk_spec a3,fun hl Γ p=>by rw [<- es2]; exact a4 hl Γ p⟩
 rw [<- es1]
 refine disp_cons hΓ consts1 lens3.2.2.1 lens3.2.2.2.1 (congrArg (·.2.1) roads) hcode D1 swaps_set (fun b hb=>?_)
 obtain ⟨b1,b2,b3,b4⟩:=f a b
 have D2:DispAt w (envA w) "g_elision_char" xs2 (s2 w a b):=⟨b1,Nat.lt_of_lt_of_le (by decide) (Nat.le_of_ble_eq_true b2),codeOk_spec b3,fun hl Γ p=>by rw [<- es3]; exact b4 hl Γ p⟩
 rw [<- es2]
 refine disp_cons hΓ consts2 lens3.2.2.2.2.1 lens3.2.2.2.2.2.1 (congrArg (·.2.2.1) roads) hcode D2 swaps_set (fun c hc=>?_)
 obtain ⟨c1,c2,c3,c4⟩:=g a b c
 have D3:DispAt w (envA w) "g_keep_with_s" xs3 (s3 w a b c):=⟨c1,Nat.lt_of_lt_of_le (by decide) (Nat.le_of_ble_eq_true c2),codeOk_spec c3,fun hl Γ p=>by rw [<- es4]; exact c4 hl Γ p⟩
 rw [<- es3]
 refine disp_cons hΓ consts3 lens3.2.2.2.2.2.2.1 lens3.2.2.2.2.2.2.2 (congrArg (·.2.2.2) roads) hcode D3 swaps_set (fun d hd p h4 X4=>?_)
 rw [<- es4] at X4 ⊢
 have:=k a b c d ha hb hc hd p h4 X4
 rw [show (cfgB w a b c d p).t = den (.body restFS (envA w)) from rfl,show (cfgB w a b c d p).Γ = (cA w).Γ from rfl,body_wpF hbr] at this
 exact this
noncomputable def dE (w:World) (n:Str) (t:Tok) (v:Value):DictEntry:=⟨reduceHash (w.params.strHash n.cps),.str n t,v⟩
noncomputable def dO (c:Value) (es:Array DictEntry) (n:Nat):Obj:={ cls:=c,dict:=none,data:=.dict es n,slots:=#[] }
noncomputable def sO (c:Value) (xs:Array Value):Obj:={ cls:=c,dict:=none,data:=.seq xs 0,slots:=#[] }
noncomputable def amIns (w:World) (x:Value) (i r:Value) (b u:Nat) (T:BT):BT :=
 ((T.ins b (dO (.type "dict") #[dE w "s" (u + 5) x,dE w "substring_i" (u + 7) i,dE w "result" (u + 9) r] 3)).ins (b + 1) (instObj 218 b)).ins (b + 2)
  (dO (.type "frame") #[dE w "self" u (.ref (b + 1)),dE w "s" (u + 1) x,dE w "substring_i" (u + 2) i,dE w "result" (u + 3) r] 4)
noncomputable def amTree (w:World):List (Mine.T × Int × Int)->BT->Nat->Nat->BT
 | [],T,_,_=>T
 |(x,i,r) :: l,T,b,t =>
  let ti:=t + 1 + (-i).toNat
  let tr:=ti + 1 + (-r).toNat
  amTree w l (amIns w (.str (tx x) t) (.int i ti) (.int r tr) b (tr + 1) T) (b + 3) (tr + 11)
noncomputable def addE (e:DictEntry) (o:Obj):Obj:=match o with
 | ⟨c,d,.dict es n,sl⟩=>⟨c,d,.dict (es.push e) (n + 1),sl⟩
 | o=>o
noncomputable def amSt (w:World) (nm:Str) (l:List (Mine.T × Int × Int)) (b t n t':Nat) (s:HSt):HSt :=
 ⟨((amTree w l s.T b t).ins (n - 1) (sO (.type "list") ((List.range l.length).map fun j=>Value.ref (b + 3 * j + 1)).toArray)).set 225 (addE (dE w nm (t' - 1) (.ref (n - 1)))),n,t',s.drawn⟩
noncomputable def cT (w:World) (k:Nat) (p:Pos) (s:HSt):Cfg:=⟨den (.body (restFS.drop k) (envA w)),(cA w).Γ,p,(cA w).K,s⟩
@[irreducible] noncomputable def u0 (w:World) (a b c d:Hole):HSt:=((goH w.params 494 (cfgB w a b c d ⟨0,0,0,0⟩)).getD cfgX).s
theorem stretch0 (w:World) (a b c d:Hole) (p:Pos):goH w.params 494 (cfgB w a b c d p) = some (cT w 17 ⟨870,4,950,19⟩ (u0 w a b c d)):=by kernel_rfl
@[irreducible] noncomputable def u1 (w:World) (a b c d:Hole):HSt:=amSt w "a_4" t4L 396 992 529 1602 (amSt w "a_3" t3L 386 949 396 992 (amSt w "a_2" t2L 367 864 386 949 (amSt w "a_1" t1L 345 771 367 864 (amSt w "a_0" t0L 332 711 345 771 (u0 w a b c d)))))
theorem stretch1 (w:World) (a b c d:Hole):goH w.params 10885 (cT w 17 ⟨870,4,950,19⟩ (u0 w a b c d)) = some (cT w 22 ⟨955,4,955,7⟩ (u1 w a b c d)):=by kernel_rfl
@[irreducible] noncomputable def u2 (w:World) (a b c d:Hole):HSt:=amSt w "a_6" t6L 635 2088 645 2133 (amSt w "a_5" t5L 529 1602 635 2088 (u1 w a b c d))
theorem stretch2 (w:World) (a b c d:Hole):goH w.params 6467 (cT w 22 ⟨955,4,955,7⟩ (u1 w a b c d)) = some (cT w 24 ⟨957,4,957,7⟩ (u2 w a b c d)):=by kernel_rfl
@[irreducible] noncomputable def u3 (w:World) (a b c d:Hole):HSt:=amSt w "a_9" t9L 788 2778 804 2854 (amSt w "a_8" t8L 769 2695 788 2778 (amSt w "a_7" t7L 645 2133 769 2695 (u2 w a b c d)))
theorem stretch3 (w:World) (a b c d:Hole):goH w.params 8823 (cT w 24 ⟨957,4,957,7⟩ (u2 w a b c d)) = some (cT w 27 ⟨960,4,960,7⟩ (u3 w a b c d)):=by kernel_rfl
noncomputable def cO (name qual:Str) (bases mro:List Value) (ns:Addr) (hd:Bool) (sub:List Value) (sl:Array (Option Value)):Obj :=
 { cls:=.type "type",dict:=none,data:=.cls { name:=name,bases:=bases,mro:=mro,ns:=ns,qualname:=qual,hasDict:=hd,slotNames:=[],subclasses:=sub,abstract:=false,collection:=none,hasDel:=false },slots:=sl }
noncomputable def clsB (s:Stmt):List Stmt:=by
 cases s with
 | ClassDef _ _ _ b=>exact b
 | _=>exact []
noncomputable def clsBody (n:Str):List Stmt:=(PH.main.body.find? (isCls n)).elim [] clsB
noncomputable def fnObj (q:Str) (md:Value) (cd:Addr) (s:Stmt):Obj:=by
 cases s with
 | FunctionDef n args body _ _ _ sc=>exact { cls:=.type "function",dict:=none,data:=.func { name:=n,qualname:=q,params:=args,body:=.stmts body,scope:=sc,globals:=3,closure:=[],defaults:=.none,kwdefaults:=.none,doc:=.none,pyModule:=md,annotations:=none,code:=.ref cd,closureTuple:=.none,builtins:=0 },slots:=#[] }
 | _=>exact default
noncomputable def isDef (n:Str) (s:Stmt):Bool:=by
 cases s with
 | FunctionDef m=>exact m == n
 | _=>exact false
noncomputable def fnStmt (cls n:Str):Stmt:=((if cls.cps.isEmpty then PH.main.body else clsBody cls).find? (isDef n)).getD passS
noncomputable def mdOf (k:Nat):Value:=match k with
 | 0=>.str "snowballstemmer.basestemmer" 194
 | 1=>.str "snowballstemmer.among" 436
 | 2=>.str "snowballstemmer.french_stemmer" 471
 | _=>.str "law_ai0042_01" 2945
noncomputable def clsOf (k:Nat):Str:=match k with
 | 0=>"BaseStemmer"
 | 1=>"Among"
 | 2=>"FrenchStemmer"
 | _=>""
noncomputable def fnE (a:Addr) (k:Nat) (n q:Str):Addr × Obj:=(a,fnObj q (mdOf k) (a - 1) (fnStmt (clsOf k) n))
noncomputable def lstE (a b m:Nat):Addr × Obj:=(a,sO (.type "list") ((List.range m).map fun j=>Value.ref (b + 3 * j + 1)).toArray)
noncomputable def KL (w:World):Frag:=[
 ((0:Addr),boot_o_0 w.params),
 ((1:Addr),boot_o_1 w.params),
 ((4:Addr),boot_o_4 w.params),
 ((5:Addr),boot_o_5 w.params),
 ((6:Addr),boot_o_6 w.params),
 ((7:Addr),boot_o_7 w.params),
 ((8:Addr),boot_o_8 w.params),
 ((9:Addr),boot_o_9 w.params),
 ((10:Addr),boot_o_10 w.params),
 (2,dO .none #[dE w "type.__subclasses__.Exception.0" 2881 (.int 818 0),dE w "type.__subclasses__.Exception.n" 2882 (.int 4 0),dE w "type.__subclasses__.Exception.1" 2901 (.int 831 0),dE w "type.__subclasses__.Exception.2" 2921 (.int 844 0),dE w "type.__subclasses__.Exception.3" 2941 (.int 857 0)] 5),
 (3,dO (.type "dict") #[dE w "__name__" 165 (.str "law_ai0042_01" 2945),dE w "__doc__" 166 .none,dE w "__package__" 167 .none,dE w "__loader__" 168 (.builtin "__main__.__loader__#opaque"),dE w "__spec__" 169 .none,dE w "__annotations__" 170 (.ref 6),dE w "__builtins__" 171 (.ref 4),dE w "__file__" 173 (.str "/claim/cut.py" 172),dE w "__cached__" 174 .none,dE w "_wall" 193 (.ref 21),dE w "BaseStemmer" 435 (.ref 197),dE w "Among" 470 (.ref 218),dE w "FrenchStemmer" 2864 (.ref 806),dE w "lab0" 2884 (.ref 818),dE w "lab1" 2904 (.ref 831),dE w "lab2" 2924 (.ref 844),dE w "lab3" 2944 (.ref 857),dE w "_law_vowels" 2952 (.ref 867),dE w "_law_letters" 2958 (.ref 874),dE w "_law_parts" 2964 (.ref 881),dE w "_law_nouns" 2970 (.ref 888),dE w "_law_short" 3006 (.ref 889),dE w "_law_verbs" 3012 (.ref 896),dE w "_law_last" 3018 (.ref 903),dE w "_law_ends" 3024 (.ref 908),dE w "_law_word" 3036 (.ref 915),dE w "_law_end" 3047 (.ref 922),dE w "_law_cut" 3055 (.ref 929),dE w "_law_less" 3065 (.ref 936),dE w "_law_behind" 3073 (.ref 943),dE w "_law_marked" 3087 (.ref 950),dE w "_law_first" 3095 (.ref 957),dE w "_law_or" 3106 (.ref 964),dE w "_law_adverb" 3118 (.ref 971),dE w "_law_noun" 3134 (.ref 978),dE w "_law_verb" 3147 (.ref 985),dE w "_law_rest" 3159 (.ref 992),dE w "_law_plain" 3169 (.ref 999),dE w "_law_stem" 3181 (.ref 1006),dE w "law" 3187 (.ref 1011)] 40),
 (196,dO (.type "dict") #[dE w "__module__" 203 (.str "snowballstemmer.basestemmer" 194),dE w "__firstlineno__" 207 (.int 5 206),dE w "__init__" 214 (.ref 35),dE w "set_current" 222 (.ref 42),dE w "get_current" 229 (.ref 49),dE w "copy_from" 237 (.ref 56),dE w "in_grouping" 245 (.ref 63),dE w "go_in_grouping" 253 (.ref 70),dE w "in_grouping_b" 261 (.ref 77),dE w "go_in_grouping_b" 269 (.ref 84),dE w "out_grouping" 277 (.ref 91),dE w "go_out_grouping" 285 (.ref 98),dE w "out_grouping_b" 293 (.ref 105),dE w "go_out_grouping_b" 301 (.ref 112),dE w "eq_s" 309 (.ref 119),dE w "eq_s_b" 317 (.ref 126),dE w "find_among" 337 (.ref 133),dE w "find_among_b" 357 (.ref 140),dE w "replace_s" 368 (.ref 147),dE w "slice_from" 376 (.ref 154),dE w "slice_del" 383 (.ref 161),dE w "insert" 393 (.ref 168),dE w "slice_to" 400 (.ref 175),dE w "assign_to" 407 (.ref 182),dE w "stemWord" 415 (.ref 189),dE w "stemWords" 421 (.ref 194),dE w "__static_attributes__" 428 (.ref 195),dE w "__dict__" 430 (.ref 198),dE w "__weakref__" 432 (.ref 199),dE w "__doc__" 433 .none] 4),
 (197,cO "BaseStemmer" "BaseStemmer" [(.type "object")] [(.ref 197),(.type "object")] 196 true [(.ref 806)] #[none,none,some (.str "BaseStemmer" 196),some (.str "BaseStemmer" 204),some (.builtin "object.__new__"),some (.bool true)]),
 (217,dO (.type "dict") #[dE w "__module__" 445 (.str "snowballstemmer.among" 436),dE w "__firstlineno__" 449 (.int 211 448),dE w "__init__" 459 (.ref 215),dE w "__static_attributes__" 463 (.ref 216),dE w "__dict__" 465 (.ref 219),dE w "__weakref__" 467 (.ref 220),dE w "__doc__" 468 .none] 4),
 (218,cO "Among" "Among" [(.type "object")] [(.ref 218),(.type "object")] 217 true [] #[none,none,some (.str "Among" 438),some (.str "Among" 446),some (.builtin "object.__new__"),some (.bool true)]),
 (805,dO (.type "dict") #[dE w "__module__" 480 (.str "snowballstemmer.french_stemmer" 471),dE w "__firstlineno__" 484 (.int 218 483),dE w "g_v" 519 (.ref 230),dE w "g_oux_ending" 532 (.ref 231),dE w "g_elision_char" 549 (.ref 232),dE w "g_keep_with_s" 562 (.ref 233),dE w "I_p2" 564 (.int 0 563),dE w "I_p1" 566 (.int 0 565),dE w "I_pV" 568 (.int 0 567),dE w "r_elisions" 575 (.ref 240),dE w "r_prelude" 586 (.ref 247),dE w "r_mark_regions" 597 (.ref 254),dE w "r_postlude" 606 (.ref 261),dE w "r_RV" 613 (.ref 268),dE w "r_R1" 620 (.ref 275),dE w "r_R2" 627 (.ref 282),dE w "r_standard_suffix" 646 (.ref 289),dE w "r_i_verb_suffix" 654 (.ref 296),dE w "r_verb_suffix" 665 (.ref 303),dE w "r_residual_suffix" 676 (.ref 310),dE w "r_un_double" 684 (.ref 317),dE w "r_un_accent" 692 (.ref 324),dE w "_stem" 710 (.ref 331),dE w "a_0" 770 (.ref 344),dE w "a_1" 863 (.ref 366),dE w "a_2" 948 (.ref 385),dE w "a_3" 991 (.ref 395),dE w "a_4" 1601 (.ref 528),dE w "a_5" 2087 (.ref 634),dE w "a_6" 2132 (.ref 644),dE w "a_7" 2694 (.ref 768),dE w "a_8" 2777 (.ref 787),dE w "a_9" 2853 (.ref 803),dE w "__static_attributes__" 2861 (.ref 804),dE w "__doc__" 2862 .none] 2),
 (806,cO "FrenchStemmer" "FrenchStemmer" [(.ref 197)] [(.ref 806),(.ref 197),(.type "object")] 805 true [] #[some (.ref 223),none,some (.str "FrenchStemmer" 473),some (.str "FrenchStemmer" 481),some (.builtin "object.__new__"),some (.bool true)]),
 (817,dO (.type "dict") #[dE w "__module__" 2872 (.str "snowballstemmer.french_stemmer" 471),dE w "__firstlineno__" 2876 (.int 961 2875),dE w "__static_attributes__" 2877 (.ref 816),dE w "__weakref__" 2879 (.ref 819),dE w "__doc__" 2880 .none] 3),
 (818,cO "lab0" "lab0" [(.type "Exception")] [(.ref 818),(.type "Exception"),(.type "BaseException"),(.type "object")] 817 true [] #[some (.ref 809),none,some (.str "lab0" 2865),some (.str "lab0" 2873),some (.builtin "Exception.__new__"),some (.bool true)]),
 (830,dO (.type "dict") #[dE w "__module__" 2892 (.str "snowballstemmer.french_stemmer" 471),dE w "__firstlineno__" 2896 (.int 963 2895),dE w "__static_attributes__" 2897 (.ref 829),dE w "__weakref__" 2899 (.ref 832),dE w "__doc__" 2900 .none] 3),
 (831,cO "lab1" "lab1" [(.type "Exception")] [(.ref 831),(.type "Exception"),(.type "BaseException"),(.type "object")] 830 true [] #[some (.ref 822),none,some (.str "lab1" 2885),some (.str "lab1" 2893),some (.builtin "Exception.__new__"),some (.bool true)]),
 (843,dO (.type "dict") #[dE w "__module__" 2912 (.str "snowballstemmer.french_stemmer" 471),dE w "__firstlineno__" 2916 (.int 965 2915),dE w "__static_attributes__" 2917 (.ref 842),dE w "__weakref__" 2919 (.ref 845),dE w "__doc__" 2920 .none] 3),
 (844,cO "lab2" "lab2" [(.type "Exception")] [(.ref 844),(.type "Exception"),(.type "BaseException"),(.type "object")] 843 true [] #[some (.ref 835),none,some (.str "lab2" 2905),some (.str "lab2" 2913),some (.builtin "Exception.__new__"),some (.bool true)]),
 (856,dO (.type "dict") #[dE w "__module__" 2932 (.str "snowballstemmer.french_stemmer" 471),dE w "__firstlineno__" 2936 (.int 967 2935),dE w "__static_attributes__" 2937 (.ref 855),dE w "__weakref__" 2939 (.ref 858),dE w "__doc__" 2940 .none] 3),
 (857,cO "lab3" "lab3" [(.type "Exception")] [(.ref 857),(.type "Exception"),(.type "BaseException"),(.type "object")] 856 true [] #[some (.ref 848),none,some (.str "lab3" 2925),some (.str "lab3" 2933),some (.builtin "Exception.__new__"),some (.bool true)]),
 fnE 35 0 "__init__" "BaseStemmer.__init__",
 fnE 42 0 "set_current" "BaseStemmer.set_current",
 fnE 49 0 "get_current" "BaseStemmer.get_current",
 fnE 63 0 "in_grouping" "BaseStemmer.in_grouping",
 fnE 70 0 "go_in_grouping" "BaseStemmer.go_in_grouping",
 fnE 77 0 "in_grouping_b" "BaseStemmer.in_grouping_b",
 fnE 98 0 "go_out_grouping" "BaseStemmer.go_out_grouping",
 fnE 105 0 "out_grouping_b" "BaseStemmer.out_grouping_b",
 fnE 119 0 "eq_s" "BaseStemmer.eq_s",
 fnE 126 0 "eq_s_b" "BaseStemmer.eq_s_b",
 fnE 133 0 "find_among" "BaseStemmer.find_among",
 fnE 140 0 "find_among_b" "BaseStemmer.find_among_b",
 fnE 147 0 "replace_s" "BaseStemmer.replace_s",
 fnE 154 0 "slice_from" "BaseStemmer.slice_from",
 fnE 161 0 "slice_del" "BaseStemmer.slice_del",
 fnE 189 0 "stemWord" "BaseStemmer.stemWord",
 fnE 194 0 "stemWords" "BaseStemmer.stemWords",
 fnE 215 1 "__init__" "Among.__init__",
 fnE 240 2 "r_elisions" "FrenchStemmer.r_elisions",
 fnE 247 2 "r_prelude" "FrenchStemmer.r_prelude",
 fnE 254 2 "r_mark_regions" "FrenchStemmer.r_mark_regions",
 fnE 261 2 "r_postlude" "FrenchStemmer.r_postlude",
 fnE 268 2 "r_RV" "FrenchStemmer.r_RV",
 fnE 275 2 "r_R1" "FrenchStemmer.r_R1",
 fnE 282 2 "r_R2" "FrenchStemmer.r_R2",
 fnE 289 2 "r_standard_suffix" "FrenchStemmer.r_standard_suffix",
 fnE 296 2 "r_i_verb_suffix" "FrenchStemmer.r_i_verb_suffix",
 fnE 303 2 "r_verb_suffix" "FrenchStemmer.r_verb_suffix",
 fnE 310 2 "r_residual_suffix" "FrenchStemmer.r_residual_suffix",
 fnE 317 2 "r_un_double" "FrenchStemmer.r_un_double",
 fnE 324 2 "r_un_accent" "FrenchStemmer.r_un_accent",
 fnE 331 2 "_stem" "FrenchStemmer._stem",
 fnE 867 3 "_law_vowels" "_law_vowels",
 fnE 874 3 "_law_letters" "_law_letters",
 fnE 881 3 "_law_parts" "_law_parts",
 fnE 888 3 "_law_nouns" "_law_nouns",
 fnE 896 3 "_law_verbs" "_law_verbs",
 fnE 903 3 "_law_last" "_law_last",
 fnE 908 3 "_law_ends" "_law_ends",
 fnE 915 3 "_law_word" "_law_word",
 fnE 922 3 "_law_end" "_law_end",
 fnE 929 3 "_law_cut" "_law_cut",
 fnE 936 3 "_law_less" "_law_less",
 fnE 943 3 "_law_behind" "_law_behind",
 fnE 950 3 "_law_marked" "_law_marked",
 fnE 957 3 "_law_first" "_law_first",
 fnE 964 3 "_law_or" "_law_or",
 fnE 971 3 "_law_adverb" "_law_adverb",
 fnE 978 3 "_law_noun" "_law_noun",
 fnE 985 3 "_law_verb" "_law_verb",
 fnE 992 3 "_law_rest" "_law_rest",
 fnE 999 3 "_law_plain" "_law_plain",
 fnE 1006 3 "_law_stem" "_law_stem",
 fnE 1011 3 "law" "law",
 lstE 344 332 4,
 lstE 366 345 7,
 lstE 385 367 6,
 lstE 395 386 3,
 lstE 528 396 44,
 lstE 634 529 35,
 lstE 644 635 3,
 lstE 768 645 41,
 lstE 787 769 6,
 lstE 803 788 5]
noncomputable def fnAddrs:List (Addr × Str):=[(35,Str.ofString "BaseStemmer.__init__"),(42,Str.ofString "BaseStemmer.set_current"),(49,Str.ofString "BaseStemmer.get_current"),(63,Str.ofString "BaseStemmer.in_grouping"),(70,Str.ofString "BaseStemmer.go_in_grouping"),(77,Str.ofString "BaseStemmer.in_grouping_b"),(98,Str.ofString "BaseStemmer.go_out_grouping"),(105,Str.ofString "BaseStemmer.out_grouping_b"),(119,Str.ofString "BaseStemmer.eq_s"),(126,Str.ofString "BaseStemmer.eq_s_b"),(133,Str.ofString "BaseStemmer.find_among"),(140,Str.ofString "BaseStemmer.find_among_b"),(147,Str.ofString "BaseStemmer.replace_s"),(154,Str.ofString "BaseStemmer.slice_from"),(161,Str.ofString "BaseStemmer.slice_del"),(189,Str.ofString "BaseStemmer.stemWord"),(194,Str.ofString "BaseStemmer.stemWords"),(215,Str.ofString "Among.__init__"),(240,Str.ofString "FrenchStemmer.r_elisions"),(247,Str.ofString "FrenchStemmer.r_prelude"),(254,Str.ofString "FrenchStemmer.r_mark_regions"),(261,Str.ofString "FrenchStemmer.r_postlude"),(268,Str.ofString "FrenchStemmer.r_RV"),(275,Str.ofString "FrenchStemmer.r_R1"),(282,Str.ofString "FrenchStemmer.r_R2"),(289,Str.ofString "FrenchStemmer.r_standard_suffix"),(296,Str.ofString "FrenchStemmer.r_i_verb_suffix"),(303,Str.ofString "FrenchStemmer.r_verb_suffix"),(310,Str.ofString "FrenchStemmer.r_residual_suffix"),(317,Str.ofString "FrenchStemmer.r_un_double"),(324,Str.ofString "FrenchStemmer.r_un_accent"),(331,Str.ofString "FrenchStemmer._stem"),(867,Str.ofString "_law_vowels"),(874,Str.ofString "_law_letters"),(881,Str.ofString "_law_parts"),(888,Str.ofString "_law_nouns"),(896,Str.ofString "_law_verbs"),(903,Str.ofString "_law_last"),(908,Str.ofString "_law_ends"),(915,Str.ofString "_law_word"),(922,Str.ofString "_law_end"),(929,Str.ofString "_law_cut"),(936,Str.ofString "_law_less"),(943,Str.ofString "_law_behind"),(950,Str.ofString "_law_marked"),(957,Str.ofString "_law_first"),(964,Str.ofString "_law_or"),(971,Str.ofString "_law_adverb"),(978,Str.ofString "_law_noun"),(985,Str.ofString "_law_verb"),(992,Str.ofString "_law_rest"),(999,Str.ofString "_law_plain"),(1006,Str.ofString "_law_stem"),(1011,Str.ofString "law")]
noncomputable def dictL (o:Option Obj):Option (List DictEntry):=o.bind fun o=>match o.data with
 | .dict es _=>some es.toList
 | _=>none
noncomputable def keyIs (k:Str) (e:DictEntry):Bool:=match e.key with
 | .str s _=>decide (s = k)
 | _=>false
noncomputable def strV (v:Value):Option Str:=match v with
 | .str x _=>some x
 | _=>none
noncomputable def intV (v:Value):Option Int:=match v with
 | .int x _=>some x
 | _=>none
noncomputable def amView (o:Option Obj):Option (Str × Int × Int):=(dictL o).bind fun l=>(v3 l).bind fun p=>if (keyIs "s" p.1 && (keyIs "substring_i" p.2.1 && keyIs "result" p.2.2)) = true then (strV p.1.val).bind fun x=>(intV p.2.1.val).bind fun i=>(intV p.2.2.val).map fun r=>(x,i,r) else none
theorem dictL_ok {o:Option Obj} {l:List DictEntry} (h:dictL o = some l):∃ ob es n,o = some ob /\ ob.data = .dict es n /\ es.toList = l:=by
 obtain ⟨ob,rfl,h⟩:=Option.bind_eq_some_iff.mp h
 obtain ⟨c,d,dt,sl⟩:=ob
 cases dt with
 | dict es n=>exact ⟨_,es,n,rfl,rfl,Option.some.inj h⟩
 | _=>exact nz h
theorem keyIs_ok {k:Str} {e:DictEntry} (h:keyIs k e = true):∃ t,e.key = .str k t:=by
 obtain ⟨hh,ky,vl⟩:=e
 cases ky with
 | str s t=>exact ⟨t,by rw [show s = k from of_decide_eq_true h]⟩
 | _=>exact absurd h fT
theorem strV_ok {v:Value} {x:Str} (h:strV v = some x):∃ t,v = .str x t:=by
 cases v with
 | str s t=>exact ⟨t,by rw [Option.some.inj h]⟩
 | _=>exact nz h
theorem intV_ok {v:Value} {x:Int} (h:intV v = some x):∃ t,v = .int x t:=by
 cases v with
 | int s t=>exact ⟨t,by rw [Option.some.inj h]⟩
 | _=>exact nz h
noncomputable def codeO (o:Obj):Option Str:=match o.data with
 | .fields vs=>(vs[1]?).bind strV
 | _=>none
noncomputable def codeView (o:Option Obj):Option Str:=o.bind codeO
theorem codeView_ok {o:Option Obj} {q:Str} (h:codeView o = some q):∃ ob vs t,o = some ob /\ ob.data = .fields vs /\ vs[1]? = some (Value.str q t):=by
 obtain ⟨⟨c,d,dt,sl⟩,rfl,h⟩:=Option.bind_eq_some_iff.mp h
 cases dt with
 | fields vs =>
  obtain ⟨v,e,h⟩:=Option.bind_eq_some_iff.mp (show (vs[1]?).bind strV = some q from h)
  obtain ⟨t,rfl⟩:=strV_ok h
  exact ⟨_,vs,t,rfl,rfl,e⟩
 | _=>exact nz h
noncomputable def clsIs (v:Value):Bool:=match v with
 | .type n=>decide (n = "list")
 | _=>false
noncomputable def shortO (o:Obj):Option (List Str):=match o.data with
 | .seq xs _=>cond (clsIs o.cls) (xs.toList.mapM strV) none
 | _=>none
noncomputable def shortView (o:Option Obj):Option (List Str):=o.bind shortO
theorem shortView_ok {o:Option Obj} {l:List Str} (h:shortView o = some l):∃ ob xs n,o = some ob /\ ob.cls = .type "list" /\ ob.data = .seq xs n /\ xs.toList.mapM strV = some l:=by
 obtain ⟨⟨c,d,dt,sl⟩,rfl,h⟩:=Option.bind_eq_some_iff.mp h
 cases dt with
 | seq xs n =>
  refine cond_inv (show cond (clsIs c) (xs.toList.mapM strV) none = some l from h) (fun e h'=>?_) fun _=>none_ne
  cases c with
  | type m=>exact ⟨_,xs,n,rfl,by rw [show m = "list" from of_decide_eq_true e],rfl,h'⟩
  | _=>exact absurd e fT
 | _=>exact nz h
noncomputable def amRow (T:BT) (b m:Nat):List (Option (Str × Int × Int) × Option Obj):=(List.range m).map fun j=>(amView (T.get (b + 3 * j)),T.get (b + 3 * j + 1))
noncomputable def amWant (b:Nat) (l:List (T × Int × Int)):List (Option (Str × Int × Int) × Option Obj):=l.zipIdx.map fun (x,j)=>(some (tx x.1,x.2.1,x.2.2),some (instObj 218 (b + 3 * j)))
noncomputable def tabAddrs:List (Nat × List (T × Int × Int)):=[(332,t0L),(345,t1L),(367,t2L),(386,t3L),(396,t4L),(529,t5L),(635,t6L),(645,t7L),(769,t8L),(788,t9L)]
noncomputable def parB (P:Params) (b:Bool):Params:={ P with followText:=fun r=>if r = "special-get-raises" then b else P.followText r }
noncomputable def cfgC (w:World) (a b c d:Hole):Cfg:=cT w 27 ⟨960,4,960,7⟩ (u3 w a b c d)
@[irreducible] noncomputable def sE (w:World) (a b c d:Hole) (f:Bool):HSt:=match runH (parB w.params f) 3000 (cfgC w a b c d) with
 | some (_,s)=>s
 | none=>sBoot w
structure EndView (w:World) (a b c d:Hole) (s:HSt):Prop where
 n:s.n = 1012
 K:(KL w).map (fun x=>s.T.get x.1) = (KL w).map fun x=>some x.2
 am:tabAddrs.map (fun x=>amRow s.T x.1 x.2.length) = tabAddrs.map fun x=>amWant x.1 x.2
 code:fnAddrs.map (fun x=>codeView (s.T.get (x.1 - 1))) = fnAddrs.map fun x=>some x.2
 short:shortView (s.T.get 889) = some (shortL.map tx)
 sets:(s.T.get 230,s.T.get 231,s.T.get 232,s.T.get 233) = (some a.obj,some b.obj,some c.obj,some d.obj)
theorem endF (w:World) (a b c d:Hole):runH (parB w.params false) 3000 (cfgC w a b c d) = some (.ret .none,sE w a b c d false) /\ EndView w a b c d (sE w a b c d false):=by
 refine ⟨?_,?_,?_,?_,?_,?_,?_⟩
 all_goals kernel_rfl
theorem endT (w:World) (a b c d:Hole):runH (parB w.params true) 3000 (cfgC w a b c d) = some (.ret .none,sE w a b c d true) /\ EndView w a b c d (sE w a b c d true):=by
 refine ⟨?_,?_,?_,?_,?_,?_,?_⟩
 all_goals kernel_rfl
theorem boot_HR (w:World):HR (boot_heap w.params) (bootT w) 11:=by
 have h:∀ a,a < 11->(bootT w).get a = (boot_heap w.params).objs[a]?:=by
  have k:((bootT w).get 0,(bootT w).get 1,(bootT w).get 2,(bootT w).get 3,(bootT w).get 4,(bootT w).get 5,(bootT w).get 6,(bootT w).get 7,(bootT w).get 8,(bootT w).get 9,(bootT w).get 10) =
   ((boot_heap w.params).objs[0]?,(boot_heap w.params).objs[1]?,(boot_heap w.params).objs[2]?,(boot_heap w.params).objs[3]?,(boot_heap w.params).objs[4]?,(boot_heap w.params).objs[5]?,(boot_heap w.params).objs[6]?,(boot_heap w.params).objs[7]?,(boot_heap w.params).objs[8]?,(boot_heap w.params).objs[9]?,(boot_heap w.params).objs[10]?):=by kernel_rfl
  simp only [Prod.mk.injEq] at k
  obtain ⟨k0,k1,k2,k3,k4,k5,k6,k7,k8,k9,k10⟩:=k
  intro a ha
  match a,ha with
  | 0,_=>exact k0
  | 1,_=>exact k1
  | 2,_=>exact k2
  | 3,_=>exact k3
  | 4,_=>exact k4
  | 5,_=>exact k5
  | 6,_=>exact k6
  | 7,_=>exact k7
  | 8,_=>exact k8
  | 9,_=>exact k9
  | 10,_=>exact k10
  | n + 11,h=>omega
 refine ⟨by kernel_rfl,fun a o ha e=>get_alive ?_⟩
 rw [<- h a ha]; exact e
noncomputable def liveO (o:Obj):Bool:=match o with
 | ⟨_,_,.freed,_⟩=>false
 | _=>true
theorem alive_of {o:Obj} (h:liveO o = true):alive o = some o:=by
 obtain ⟨c,d,dt,sl⟩:=o
 cases dt <;> first | rfl | cases h
theorem KL_ok (w:World):(KL w).all (fun x=>Nat.blt x.1 1012 && liveO x.2) = true:=by kernel_rfl
structure Top (w:World) (h:Heap):Prop where
 K:(KL w).In h
 am:∀ b l,(b,l) ∈ tabAddrs->∀ (j:Nat) x,l[j]? = some x->AmgAt 218 h (b + 3 * j + 1) x.1 x.2.1 x.2.2
 code:∀ a q,(a,q) ∈ fnAddrs->h.CodeRec (.ref (a - 1)) q
 short:∃ (ts:List Tok) ,ts.length = shortL.length /\ h.IsList 889 ((shortL.zip ts).map fun x=>Value.str (tx x.1) x.2).toArray
 sets:SetAt w h 230 gvL /\ SetAt w h 231 ouxL /\ SetAt w h 232 eliL /\ SetAt w h 233 kwsL
theorem setHole_at {w:World} {h:Heap} {a:Addr} {l:List T} {o:Obj} (sh:SetHole w (l.map tx) o) (e:h.get? a = some o):SetAt w h a l:=by
 obtain ⟨n,h1,h2⟩:=sh h a e
 refine ⟨n,setOf_congr (fun k=>?_) h1,h2⟩
 rw [Bool.eq_iff_iff,List.contains_iff_mem,List.contains_iff_mem,List.mem_map]
 constructor
 ·rintro ⟨t,ht,rfl⟩; simpa using ht
 ·intro hk; exact ⟨_,hk,by simp⟩
theorem mem_lookup:∀ {l:Frag} {a:Addr} {o:Obj},l.lookup a = some o->(a,o) ∈ l
 | [],_,_,h=>by cases h
 |(b,u) :: l,a,o,h=>by
  rw [List.lookup_cons] at h
  cases q:a == b with
  | true =>
   rw [q] at h
   cases h
   rw [eq_of_beq q]
   exact .head _
  | false =>
   rw [q] at h
   exact .tail _ (mem_lookup h)
theorem ent_eq {e:DictEntry} {k v:Value} (h1:e.key = k) (h2:e.val = v):e = ⟨e.hash,k,v⟩:=by cases e; cases h1; cases h2; rfl
theorem ns3 {h:Heap} {d:Addr} {ob:Obj} {ep:Nat} {h1 h2 h3:Int} {u1 u2 u3 t1 t2 t3:Tok} {x:Str} {i r:Int} (g:h.get? d = some ob) (hd:ob.data = .dict #[⟨h1,.str "s" u1,.str x t1⟩,⟨h2,.str "substring_i" u2,.int i t2⟩,⟨h3,.str "result" u3,.int r t3⟩] ep) :
 ∃ od m t1 t2 t3,h.get? d = some od /\ h.Ns d m /\ m "s" = some (.str x t1) /\ m "substring_i" = some (.int i t2) /\ m "result" = some (.int r t3):=by
 refine ⟨_,fun n=>nsFind #[⟨h1,.str "s" u1,.str x t1⟩,⟨h2,.str "substring_i" u2,.int i t2⟩,⟨h3,.str "result" u3,.int r t3⟩] n,t1,t2,t3,g,⟨_,_,_,g,hd,?_,fun _=>rfl⟩,by kernel_rfl,by kernel_rfl,by kernel_rfl⟩
 intro z hz
 have hz:z ∈ [(⟨h1,.str "s" u1,.str x t1⟩:DictEntry),⟨h2,.str "substring_i" u2,.int i t2⟩,⟨h3,.str "result" u3,.int r t3⟩]:=by simpa using hz
 rcases List.mem_cons.mp hz with rfl | hz
 ·exact ⟨_,_,rfl⟩
 rcases List.mem_cons.mp hz with rfl | hz
 ·exact ⟨_,_,rfl⟩
 rcases List.mem_cons.mp hz with rfl | hz
 ·exact ⟨_,_,rfl⟩
 ·cases hz
theorem amView_ns {h:Heap} {d:Addr} {o:Option Obj} {x:Str} {i r:Int} (hv:amView o = some (x,i,r)) (hd:∀ u,o = some u->h.get? d = some u) :
 ∃ od m t1 t2 t3,h.get? d = some od /\ h.Ns d m /\ m "s" = some (.str x t1) /\ m "substring_i" = some (.int i t2) /\ m "result" = some (.int r t3):=by
 obtain ⟨l,hl,hv⟩:=Option.bind_eq_some_iff.mp hv
 obtain ⟨p,hp,hv⟩:=Option.bind_eq_some_iff.mp hv
 obtain ⟨ob,es,ep,ho,hd',hes⟩:=dictL_ok hl
 by_cases q:(keyIs "s" p.1 && (keyIs "substring_i" p.2.1 && keyIs "result" p.2.2)) = true
 ·rw [if_pos q] at hv
  obtain ⟨x',hx,hv⟩:=Option.bind_eq_some_iff.mp hv
  obtain ⟨i',hi,hv⟩:=Option.bind_eq_some_iff.mp hv
  obtain ⟨r',hr,hv⟩:=Option.map_eq_some_iff.mp hv
  cases hv
  obtain ⟨u1,k1⟩:=keyIs_ok (and_inv q).1
  obtain ⟨u2,k2⟩:=keyIs_ok (and_inv (and_inv q).2).1
  obtain ⟨u3,k3⟩:=keyIs_ok (and_inv (and_inv q).2).2
  obtain ⟨t1,w1⟩:=strV_ok hx
  obtain ⟨t2,w2⟩:=intV_ok hi
  obtain ⟨t3,w3⟩:=intV_ok hr
  refine ns3 (hd _ ho) (hd'.trans ?_) (ep:=ep) (h1:=p.1.hash) (h2:=p.2.1.hash) (h3:=p.2.2.hash) (u1:=u1) (u2:=u2) (u3:=u3) (t1:=t1) (t2:=t2) (t3:=t3)
  rw [<- ent_eq k1 w1,<- ent_eq k2 w2,<- ent_eq k3 w3,show es = #[p.1,p.2.1,p.2.2] by rw [<- hes.trans (v3_ok hp)]]
 ·rw [if_neg q] at hv; cases hv
theorem tab_low:tabAddrs.all (fun x=>Nat.ble (x.1 + 3 * x.2.length) 1000) = true:=by kernel_rfl
theorem fn_low:fnAddrs.all (fun x=>Nat.ble x.1 1011) = true:=by kernel_rfl
theorem map_at {α β:Type} {f g:α->β} {l:List α} (h:l.map f = l.map g) {x:α} (hx:x ∈ l):f x = g x:=List.map_inj_left.mp h x hx
theorem zip_strs {xs:List Value}:∀ {ys:List Str},xs.mapM strV = some ys->∃ ts:List Tok,ts.length = ys.length /\ xs = (ys.zip ts).map fun x=>Value.str x.1 x.2:=by
 induction xs with
 | nil =>
  intro ys h
  rw [List.mapM_nil] at h
  cases Option.some.inj h
  exact ⟨[],rfl,rfl⟩
 | cons v xs ih =>
  intro ys h
  rw [List.mapM_cons] at h
  obtain ⟨x,h0,h⟩:=Option.bind_eq_some_iff.mp h
  obtain ⟨zs,h1,h2⟩:=Option.bind_eq_some_iff.mp h
  obtain ⟨t,rfl⟩:=strV_ok h0
  cases Option.some.inj h2
  obtain ⟨ts,e1,e2⟩:=ih h1
  exact ⟨t :: ts,congrArg (· + 1) e1,by rw [e2]; rfl⟩
theorem Top.of {w:World} {h:Heap} {s:HSt} {a b c d:Hole} (X:HR h s.T s.n) (V:EndView w a b c d s) (ha:SetHole w xs0 a.obj) (hb:SetHole w xs1 b.obj) (hc:SetHole w xs2 c.obj) (hd:SetHole w xs3 d.obj):Top w h:=by
 have hn:=V.n
 refine ⟨fun x o e=>?_,fun bs l hm j x hx=>?_,fun ad q hm=>?_,?_,?_⟩
 ·have hm:=mem_lookup e
  have g:=map_at V.K hm
  have k:=List.all_eq_true.mp (KL_ok w) _ hm
  rw [Bool.and_eq_true] at k
  have lt:x < 1012:=Nat.le_of_ble_eq_true k.1
  rw [X.at_ x o (by rw [hn]; exact lt) g,alive_of k.2]
 ·have g:amRow s.T bs l.length = amWant bs l:=map_at V.am hm
  have low:=Nat.le_of_ble_eq_true (List.all_eq_true.mp tab_low _ hm)
  simp only at low
  have hj:j < l.length:=(List.getElem?_eq_some_iff.mp hx).1
  have g1:(amRow s.T bs l.length)[j]? = some (amView (s.T.get (bs + 3 * j)),s.T.get (bs + 3 * j + 1)):=by
   unfold amRow
   rw [List.getElem?_map,List.getElem?_range hj]; rfl
  have g2:(amWant bs l)[j]? = some (some (tx x.1,x.2.1,x.2.2),some (instObj 218 (bs + 3 * j))):=by
   unfold amWant
   rw [List.getElem?_map,List.getElem?_zipIdx,hx]
   simp
  rw [g,g2] at g1
  simp only [Option.some.injEq,Prod.mk.injEq] at g1
  obtain ⟨e1,e2⟩:=g1
  have e3:=X.at_ (bs + 3 * j + 1) _ (by rw [hn]; omega) e2.symm
  obtain ⟨od,m,t1,t2,t3,q1,q2,q3,q4,q5⟩:=amView_ns (h:=h) (d:=bs + 3 * j) e1.symm (fun u hu=>by
   rw [X.at_ _ u (by rw [hn]; omega) hu]
   rw [hu] at e1
   obtain ⟨cl,dd,dt,sl⟩:=u
   cases dt <;> first | rfl | cases e1)
  exact ⟨bs + 3 * j,od,m,t1,t2,t3,e3,q1,q2,q3,q4,q5⟩
 ·have g:=map_at V.code hm
  have low:=Nat.le_of_ble_eq_true (List.all_eq_true.mp fn_low _ hm)
  simp only at g low
  obtain ⟨⟨cl,dd,dt,sl⟩,vs,t,e,hd,e2⟩:=codeView_ok g
  cases (show dt = _ from hd)
  exact ⟨ad - 1,_,vs,t,rfl,X.at_ _ _ (by rw [hn]; omega) e,rfl,e2⟩
 ·have g:=V.short
  obtain ⟨⟨cl,dd,dt,sl⟩,xs,ep,e,hc,hd,g⟩:=shortView_ok g
  cases (show dt = _ from hd)
  obtain ⟨ts,e1,e2⟩:=zip_strs g
  refine ⟨ts,by rw [e1,List.length_map],_,X.at_ 889 _ (by rw [hn]; omega) e,hc,ep,?_⟩
  show Data.seq xs ep = _
  have:xs = ((shortL.zip ts).map fun x=>Value.str (tx x.1) x.2).toArray:=by
   rw [<- Array.toList_inj,e2,List.toList_toArray,List.zip_map_left,List.map_map]
   rfl
  rw [this]
 ·have g:=V.sets
  simp only [Prod.mk.injEq] at g
  obtain ⟨g0,g1,g2,g3⟩:=g
  exact ⟨setHole_at ha (X.at_ 230 _ (by rw [hn]; omega) g0),setHole_at hb (X.at_ 231 _ (by rw [hn]; omega) g1),setHole_at hc (X.at_ 232 _ (by rw [hn]; omega) g2),setHole_at hd (X.at_ 233 _ (by rw [hn]; omega) g3)⟩
theorem Top.keeps {w:World} {h h':Heap} (x:Top w h) (k:h.StaysIn h'):Top w h':=by
 refine ⟨fun a o e=>k _ _ (x.K a o e),fun b l m j y hy=>?_,fun a q m=>(x.code a q m).keeps k,?_,?_⟩
 ·obtain ⟨d,od,mm,t1,t2,t3,e1,e2,e3,r⟩:=(x.am b l m j y hy).at_
  exact ⟨d,od,mm,t1,t2,t3,k _ _ e1,k _ _ e2,e3.keeps k,r⟩
 ·obtain ⟨ts,e,l⟩:=x.short
  exact ⟨ts,e,isList_keep l fun o=>k _ o⟩
 ·obtain ⟨a,b,c,d⟩:=x.sets
  exact ⟨setAt_keep a fun o=>k _ o,setAt_keep b fun o=>k _ o,setAt_keep c fun o=>k _ o,setAt_keep d fun o=>k _ o⟩
theorem parB_eq (P:Params):P = parB P (P.followText "special-get-raises"):=by
 unfold parB
 have:P.followText = fun r=>if r = "special-get-raises" then P.followText "special-get-raises" else P.followText r:=by
  funext r
  by_cases q:r = "special-get-raises"
  ·rw [if_pos q,q]
  ·rw [if_neg q]
 exact congrArg (fun f=>({ P with followText:=f }:Params)) this
theorem head_run (w:World) (os:OsState):wpF (model PH w) topΓ (topStub PH).cur (fun r s'=>r = .ok (.ret .none) /\ s'.gens = #[] /\ Top w s'.heap /\ s'.heap.objs.size = 1012 /\ s'.os = os) default ⟨boot_heap w.params,#[],boot_drawn,boot_toks,os⟩:=by
 have key:cWp w os (fun r s'=>r = .ok (.ret .none) /\ s'.gens = #[] /\ Top w s'.heap /\ s'.heap.objs.size = 1012 /\ s'.os = os) (cfg0 w):=by
  refine topChain fun a b c d ha hb hc hd p=>?_
  refine go_sound rfl (stretch0 w a b c d p) (go_sound rfl (stretch1 w a b c d) (go_sound rfl (stretch2 w a b c d) (go_sound rfl (stretch3 w a b c d) ?_)))
  obtain ⟨e1,v1⟩:=endF w a b c d
  obtain ⟨e2,v2⟩:=endT w a b c d
  have hp:=parB_eq w.params
  cases hf:w.params.followText "special-get-raises" with
  | false =>
   rw [hf] at hp
   exact run_sound hp.symm e1 fun h X=>⟨rfl,rfl,Top.of X v1 ha hb hc hd,by rw [X.size,v1.n],rfl⟩
  | true =>
   rw [hf] at hp
   exact run_sound hp.symm e2 fun h X=>⟨rfl,rfl,Top.of X v2 ha hb hc hd,by rw [X.size,v2.n],rfl⟩
 exact key _ (boot_HR w)
noncomputable def mini (w:World):Heap:=⟨#[boot_o_0 w.params,boot_o_1 w.params,((KL w).lookup 2).getD default,((KL w).lookup 3).getD default,boot_o_4 w.params,boot_o_5 w.params,boot_o_6 w.params,boot_o_7 w.params,boot_o_8 w.params,boot_o_9 w.params,boot_o_10 w.params],{}⟩
theorem mini_at (w:World):((KL w).lookup 0,(KL w).lookup 1,(KL w).lookup 2,(KL w).lookup 3,(KL w).lookup 4,(KL w).lookup 5,(KL w).lookup 6,(KL w).lookup 7,(KL w).lookup 8,(KL w).lookup 9,(KL w).lookup 10) =
 ((mini w).get? 0,(mini w).get? 1,(mini w).get? 2,(mini w).get? 3,(mini w).get? 4,(mini w).get? 5,(mini w).get? 6,(mini w).get? 7,(mini w).get? 8,(mini w).get? 9,(mini w).get? 10):=by kernel_rfl
theorem mini_some (w:World):((mini w).get? 0).isSome && ((mini w).get? 1).isSome && ((mini w).get? 2).isSome && ((mini w).get? 3).isSome && ((mini w).get? 4).isSome && ((mini w).get? 5).isSome && ((mini w).get? 6).isSome && ((mini w).get? 7).isSome && ((mini w).get? 8).isSome && ((mini w).get? 9).isSome && ((mini w).get? 10).isSome = true:=by kernel_rfl
theorem mini_get {w:World} {h:Heap} (X:Top w h):h.get? 0 = (mini w).get? 0 /\ h.get? 1 = (mini w).get? 1 /\ h.get? 2 = (mini w).get? 2 /\ h.get? 3 = (mini w).get? 3 /\ h.get? 4 = (mini w).get? 4 /\ h.get? 5 = (mini w).get? 5 /\ h.get? 6 = (mini w).get? 6 /\
 h.get? 7 = (mini w).get? 7 /\ h.get? 8 = (mini w).get? 8 /\ h.get? 9 = (mini w).get? 9 /\ h.get? 10 = (mini w).get? 10:=by
 have m:=mini_at w
 have s:=mini_some w
 simp only [Prod.mk.injEq] at m
 simp only [Bool.and_eq_true] at s
 obtain ⟨m0,m1,m2,m3,m4,m5,m6,m7,m8,m9,m10⟩:=m
 obtain ⟨⟨⟨⟨⟨⟨⟨⟨⟨⟨s0,s1⟩,s2⟩,s3⟩,s4⟩,s5⟩,s6⟩,s7⟩,s8⟩,s9⟩,s10⟩:=s
 have k:∀ a:Addr,(KL w).lookup a = (mini w).get? a->((mini w).get? a).isSome = true->h.get? a = (mini w).get? a:=fun a e i=>by
  obtain ⟨o,ho⟩:=Option.isSome_iff_exists.mp i
  rw [ho] at e ⊢
  exact X.K a o e
 exact ⟨k 0 m0 s0,k 1 m1 s1,k 2 m2 s2,k 3 m3 s3,k 4 m4 s4,k 5 m5 s5,k 6 m6 s6,k 7 m7 s7,k 8 m8 s8,k 9 m9 s9,k 10 m10 s10⟩
theorem mini_old (w:World):((boot_heap w.params).get? 0,(boot_heap w.params).get? 1,(boot_heap w.params).get? 4,(boot_heap w.params).get? 5,(boot_heap w.params).get? 6,(boot_heap w.params).get? 7,(boot_heap w.params).get? 8,(boot_heap w.params).get? 9,(boot_heap w.params).get? 10) =
 ((mini w).get? 0,(mini w).get? 1,(mini w).get? 4,(mini w).get? 5,(mini w).get? 6,(mini w).get? 7,(mini w).get? 8,(mini w).get? 9,(mini w).get? 10):=by kernel_rfl
theorem boot_size (w:World):(boot_heap w.params).objs.size = 11:=by kernel_rfl
theorem looks1 (w:World):staticsOk (importedModules PH.main.body) (boot_heap w.params) (mini w) = true:=by kernel_rfl
theorem looks2 (w:World):namesBound PH (mini w) = true:=by kernel_rfl
theorem looks3 (w:World):laidKept (boot_heap w.params) (mini w) = true:=by kernel_rfl
theorem looks4 (w:World):(mini w).accountedOkI (importedModules PH.main.body) = true:=by kernel_rfl
theorem looks5 (w:World):(mini w).isNs mainGlobals = true:=by kernel_rfl
theorem looks6 (w:World):(mini w).isNs builtinsNs = true:=by kernel_rfl
theorem looks7 (w:World):(mini w).bltView = bltViewBooted:=by kernel_rfl
theorem looks8 (w:World):globalOf (mini w) "__builtins__" = some (.ref 4) /\ ((mini w).get? 4).map (·.cls) = some (.type "module") /\ ((mini w).get? 4).map (·.dict) = some (some builtinsNs):=⟨by kernel_rfl,by kernel_rfl,by kernel_rfl⟩
theorem opens:opening PH = plainProg PH.main.scope.names:=by kernel_rfl
theorem fences:∀ s,fenceModules? PH s = some s:=fun s=>by
 unfold fenceModules?
 kernel_rfl
theorem get_cases {w:World} {b:Addr} {o:Obj} (e:(boot_heap w.params).get? b = some o):b < 11:=by
 have:=Heap.lt_size e
 rw [boot_size] at this
 exact this
theorem old_kept {w:World} {h:Heap} (X:Top w h):∀ b o,(boot_heap w.params).get? b = some o->b ≠ 2->b ≠ 3->h.get? b = some o:=by
 obtain ⟨g0,g1,g2,g3,g4,g5,g6,g7,g8,g9,g10⟩:=mini_get X
 have m:=mini_old w
 simp only [Prod.mk.injEq] at m
 obtain ⟨m0,m1,m4,m5,m6,m7,m8,m9,m10⟩:=m
 intro b o e n2 n3
 have lt:=get_cases e
 match b,lt with
 | 0,_=>rw [g0,<- m0]; exact e
 | 1,_=>rw [g1,<- m1]; exact e
 | 2,_=>exact absurd rfl n2
 | 3,_=>exact absurd rfl n3
 | 4,_=>rw [g4,<- m4]; exact e
 | 5,_=>rw [g5,<- m5]; exact e
 | 6,_=>rw [g6,<- m6]; exact e
 | 7,_=>rw [g7,<- m7]; exact e
 | 8,_=>rw [g8,<- m8]; exact e
 | 9,_=>rw [g9,<- m9]; exact e
 | 10,_=>rw [g10,<- m10]; exact e
 | n + 11,q=>exact absurd q (Nat.not_lt.mpr (Nat.le_add_left 11 n))
theorem globalOf_congr' {h h':Heap} (e:h.get? 3 = h'.get? 3):globalOf h = globalOf h':=by
 funext k; unfold globalOf; rw [show h.get? mainNs = h'.get? mainNs from e]
theorem staticOf_congr' {h h':Heap} (e:h.get? 2 = h'.get? 2):staticOf h = staticOf h':=by
 funext k; unfold staticOf; rw [show h.get? cStatics = h'.get? cStatics from e]
theorem builtinOf_congr' {h h':Heap} (e:h.get? 0 = h'.get? 0):builtinOf h = builtinOf h':=by
 funext k; unfold builtinOf; rw [show h.get? builtinsNs = h'.get? builtinsNs from e]
theorem topRan_of {w:World} {s₀ s₁:Shared} (e₀:s₀.heap = boot_heap w.params) (X:Top w s₁.heap)
 (run:∃ n t,schedN (denote table) PH w n (.single s₀ (topStub PH)) = .running (.single s₁ t) /\ through t = true) (life:s₁.heap.life = s₀.heap.life) (os:s₁.os = s₀.os) (gens:s₁.gens = #[]):TopRan PH w s₀ s₁:=by
 obtain ⟨g0,g1,g2,g3,g4,g5,g6,g7,g8,g9,g10⟩:=mini_get X
 have eg:=globalOf_congr' g3
 have es:=staticOf_congr' g2
 have eb:=builtinOf_congr' g0
 refine ⟨run,life,Shared.rest_eq os,fun b o e hn=>?_,?_,?_,?_,?_,?_,?_,?_,?_⟩
 ·rw [e₀] at e
  exact old_kept X b o e (fun q=>hn (.inr (.inl q))) fun q=>hn (.inl q)
 ·have:=Heap.accountedI_of_ok (looks4 w)
  unfold staticsAccountedI at this ⊢
  rw [es]; exact this
 ·have:=statics_of_ok (looks1 w)
  unfold staticsBehindTheTop at this ⊢
  rw [es,e₀]; exact this
 ·obtain ⟨o,es',n,e1,r⟩:=Pin.keysAreStrs_of (looks5 w)
  exact ⟨o,es',n,(show s₁.heap.get? mainNs = (mini w).get? mainNs from g3).trans e1,r⟩
 ·intro x hx
  rw [eb]
  exact (Pin.builtinOf_eq (looks6 w) x).trans (Heap.of_bltView (looks6 w) (looks7 w) x hx)
 ·obtain ⟨l1,l2,l3⟩:=looks8 w
  obtain ⟨o,ho⟩:∃ o,(mini w).get? 4 = some o:=by
   cases q:(mini w).get? 4 with
   | none=>rw [q] at l2; cases l2
   | some o=>exact ⟨o,rfl⟩
  rw [ho] at l2 l3
  simp only [Option.map_some,Option.some.injEq] at l2 l3
  exact ⟨4,o,by rw [eg]; exact l1,g4.trans ho,l2,l3⟩
 ·rw [gens]
  intro g hg
  simp at hg
 ·rw [eg]
  exact names_of_bound (looks2 w)
 ·rw [eg,e₀]
  exact laid_of_kept (looks3 w)
theorem top_ran (w:World):(∃ s,AfterRun (opening PH) w s) /\ ∀ s,AfterRun (opening PH) w s->∃ s₀,fenceModules? PH s = some s₀ /\ s₀.gens = #[] /\ ∃ s₁,TopRan PH w s₀ s₁ /\ s₁.asleep /\ s₁.gens = #[] /\ Top w s₁.heap /\ s₁.heap.objs.size = 1012:=by
 have h:=boot_open (p:=PH) (N:=600) opens rfl fences w
 rw [<- table_eq_tree] at h
 obtain ⟨s₀,h1,e⟩:=Option.map_eq_some_iff.mp h
 obtain ⟨s,h4,h5⟩:=Option.bind_eq_some_iff.mp h1
 have A:=AfterImport.of_importEnds h4
 refine ⟨⟨s,A⟩,fun s' hs'=>?_⟩
 obtain rfl:s' = s:=AfterImport.unique hs' A
 have z:s₀.asleep:=Shared.asleep_of_life (fence_lifeW h5) A.life
 obtain ⟨hp,gs,dr,tk,os⟩:=s₀
 simp only [Prod.mk.injEq] at e
 obtain ⟨rfl,rfl,rfl,rfl⟩:=e
 refine ⟨_,h5,rfl,?_⟩
 obtain ⟨s₁,run,life,gens,X,size,os'⟩:=top_through (w:=w) z (head_run w os)
 exact ⟨s₁,topRan_of rfl X run life os' gens,Shared.asleep_of_life life z,gens,X,size⟩
noncomputable abbrev RW:OpenLaw:=PySem.Challenge.rw_ai0042_01
noncomputable abbrev RR:RowW:=RW.row.toRowW
def CallOk:Prop:=∀ (w:World) (s:Shared) (a:Addr) (vs:List Value) (ns:List Int),Top w s.heap->s.gens = #[]->s.heap.IsList a vs.toArray->IntsAre vs ns->ns.length <= 63 ->
 wpAny (model PH w) callerA (PySem.call (.ref 1011) [.ref a]) (fun v s'=>v = .bool true /\ (∀ b o,s.heap.get? b = some o->s'.heap.get? b = some o) /\ s'.os = s.os /\ s'.gens = #[]) (fun _ _=>False) s
noncomputable def esOfObj (o:Obj):Array DictEntry:=match o.data with
 | .dict es _=>es
 | _=>#[]
noncomputable def epOf (o:Obj):Nat:=match o.data with
 | .dict _ n=>n
 | _=>0
theorem dict_ns {h:Heap} {a:Addr} {o:Obj} {es:Array DictEntry} {n:Nat} (e:h.get? a = some o) (hd:o.data = .dict es n) (hk:es.toList.all (fun x=>match x.key with | .str ..=>true | _=>false) = true):h.Ns a (nsFind es):=by
 refine ⟨o,es,n,e,hd,fun x hx=>?_,fun _=>rfl⟩
 have:=List.all_eq_true.mp hk x (by simpa using hx)
 cases q:x.key with
 | str s t=>exact ⟨s,t,rfl⟩
 | _=>rw [q] at this; cases this
noncomputable def mainO (w:World):Obj:=((KL w).lookup 3).getD default
theorem mainO_facts (w:World):(KL w).lookup 3 = some (mainO w) /\ (mainO w).data = .dict (esOfObj (mainO w)) (epOf (mainO w)) /\ (esOfObj (mainO w)).toList.all (fun x=>match x.key with | .str ..=>true | _=>false) = true /\
 nsFind (esOfObj (mainO w)) "law" = some (.ref 1011):=⟨by kernel_rfl,by kernel_rfl,by kernel_rfl,by kernel_rfl⟩
theorem mainNsT {w:World} {h:Heap} (X:Top w h):h.Ns mainGlobals (nsFind (esOfObj (mainO w))):=by
 obtain ⟨f1,f2,f3,_⟩:=mainO_facts w
 exact dict_ns (X.K _ _ f1) f2 f3
noncomputable def lawO:Obj:=fnObj "law" (mdOf 3) 1010 (fnStmt "" "law")
theorem lawO_at (w:World):(KL w).lookup 1011 = some lawO:=by kernel_rfl
theorem lawO_is:∃ args body sc rest,lawO.data = .func rest /\ PH.theDef "law" = some (args,body,sc) /\ rest.name = "law" /\ rest.qualname = "law" /\ rest.params = args /\ rest.body = .stmts body /\ rest.scope = sc /\ rest.globals = mainNs /\ rest.closure = [] /\ rest.builtins = builtinsNs /\
 rest.defaults = .none /\ rest.kwdefaults = .none /\ args.defaults = [] /\ kwWritten? args.kwonlyargs args.kw_defaults = some []:=by
 refine ⟨(match fnStmt "" "law" with | .FunctionDef _ args _ _ _ _ _ ..=>args | _=>⟨[],[],none,[],[],none,[]⟩),(match fnStmt "" "law" with | .FunctionDef _ _ body _ _ _ _ ..=>body | _=>[]),(match fnStmt "" "law" with | .FunctionDef _ _ _ _ _ _ sc ..=>sc | _=>PH.main.scope),
  (match lawO.data with | .func f=>f | _=>default),?_,?_,?_,?_,?_,?_,?_,?_,?_,?_,?_,?_,?_,?_⟩
 all_goals kernel_rfl
theorem pin_law {w:World} {h:Heap} (X:Top w h):isTheDefsW PH h "law":=by
 obtain ⟨f1,f2,f3,f4⟩:=mainO_facts w
 obtain ⟨args,body,sc,fd,e1,e2,e3,e4,e5,e6,e7,e8,e9,e10,e11,e12,e13,e14⟩:=lawO_is
 refine ⟨1011,lawO,fd,args,body,sc,?_,X.K _ _ (lawO_at w),e1,e2,e3,e4,e5,e6,e7,e8,e9,e10,.inl ⟨e13,e11⟩,[],e14,.inl ⟨rfl,e12⟩⟩
 unfold globalOf
 rw [show h.get? mainNs = some (mainO w) from X.K _ _ f1]
 dsimp only
 rw [f2]
 exact f4
theorem frees_ok:(opensWell RR.prog && (frees RR && RR.within.isEmpty)) = true:=by kernel_rfl
theorem bare_ok:RR.prog.bare:=⟨rfl,rfl,rfl,rfl,rfl,by decide +kernel⟩
theorem promised_ok:RR.promised:=⟨[.list []],by decide +kernel,by decide +kernel⟩
set_option maxHeartbeats 1000000 in
theorem law_holds (call:CallOk):RR.claim.HoldsOpenBy (callStub RW.row.name) (if RW.row.pinned then [RW.row.name] else []) RW.row.keeps RW.row.writes:=by
 obtain ⟨o1,k5⟩:=Bool.and_eq_true_iff.mp frees_ok
 obtain ⟨k5,k6⟩:=Bool.and_eq_true_iff.mp k5
 obtain ⟨hsame,hu,ha,hap,hm⟩:=frees_parts k5
 refine ⟨⟨bare_ok,o1,by rw [show RR.claim.makers = RR.makers.map RR.maker from rfl,hm]; rfl⟩,promised_ok.witness,fun w=>⟨(top_ran w).1,fun s' hs'=>?_⟩⟩
 obtain ⟨s₀,hf,hg0,s,hT,hz,hgens,X,hsz⟩:=(top_ran w).2 s' hs'
 refine ⟨s₀,hf,hg0,s,hT,fun n hn=>?_,fun x hx=>(nomatch hx),fun x hx=>(nomatch hx),?_⟩
 ·obtain rfl:n = "law":=by
   have:n ∈ (["law"]:List Str):=hn
   simpa using this
  exact pin_law X
 refine ClaimW.callFrom_of_specN (c:=RR.claim) hz (by rw [hgens]; exact nogens) fun args hpre hlay ord hord=>?_
 have hasR:∀ c,(RR.records.fields? c).isSome = true->(classAt s.heap c).isSome = true:=fun c hc=>by cases hc
 obtain ⟨⟨vs,s₁⟩,hlaid⟩:=Option.isSome_iff_exists.mp (layAllW_isSome (P:=w.params) (ord:=ord) hasR args RR.args s (pre_splitW hpre).1)
 have keeps:=layAllW_keeps _ _ _ hlaid
 have hal:=layAllW_rest _ _ _ hlaid
 obtain ⟨as,hrd,hin,hold⟩:=reads_layAllW hord _ _ _ hlaid hlay s₁.heap (fun _ _ e=>e)
 have X₁:Top w s₁.heap:=X.keeps keeps
 have hi:=ident_freeW hu ha hap
 have hwi:RR.claim.within = []:=List.isEmpty_iff.mp k6
 have hwl:=well_layAllW hord args s _ hlaid _ fun _ _ e=>e
 have hlo:∀ a ∈ as,(a == sysModules) = false:=fun a ha=>beq_eq_false_iff_ne.mpr fun e=>by
  have:=(hin.2.2 a ha).1
  subst e
  rw [hsz] at this
  exact absurd this (by decide)
 refine ⟨vs,s₁,hlaid,?_⟩
 have core:wpAny (model PH w) callerA (PySem.call (.ref 1011) vs) (fun v s'=>GoodW RR.claim (classAt s.heap) (ExcName.means s.heap) args { s₁ with gens:=#[] } (.ok (.ret v)) s')
  (fun e s'=>GoodW RR.claim (classAt s.heap) (ExcName.means s.heap) args { s₁ with gens:=#[] } (.error e) s') { s₁ with gens:=#[] }:=by
  have hrd':=hrd
  have hpre':=hpre
  have hlay':=hlay
  clear hold hin hlaid hrd hlay
  w_on
  wrow_args hpre hlay' hrd' hwl hlo
  rename_i hL _ _ hI _ _ hcond _
  refine wpAny_mono (call w { s₁ with gens:=#[] } _ _ _ X₁ rfl hL hI (by omega)) (fun v s' h=>?_) (fun _ _ h=>h.elim)
  obtain ⟨rfl,h1,h2,h3⟩:=h
  refine ⟨.inl ⟨_,.bool true,[],rfl,fun cls=>rfl,.bool true,?_,fun _=>⟨.nil,fun a ha=>(nomatch ha)⟩⟩,h1,h2,h3⟩
  wrow_post
 have hn:=mainNsT X₁
 have hf':=(mainO_facts w).2.2.2
 show wpAny (model PH w) callerA (do match <- nsGet mainNs ("law":Str) with
  | some f=>do ret (<- PySem.call f vs)
  | none=>unsupported "claim.caller:no-such-global") _ _ _
 refine wpAny_bind (wpAny_nsGet hn ?_)
 rw [hf']
 dsimp only
 refine wpAny_bind (wpAny_mono core (fun v s' g=>wpAny_pure ⟨_,rfl,?_⟩) fun e s' g=>?_)
 ·have z:=g.endsN (c:=RR.claim) hsame hwi hi hrd hold hal.2.2.1
  exact ⟨z.1,z.2.1,z.2.2,fun q=>by cases q⟩
 ·have z:=g.endsN (c:=RR.claim) hsame hwi hi hrd hold hal.2.2.1
  exact ⟨z.1,z.2.1,z.2.2,fun q=>by cases q⟩
noncomputable abbrev LAW:OpenLaw:=PySem.Challenge.rw_ai0042_01
noncomputable abbrev BB:List Stmt:=LAW.row.prog.main.body
theorem said_sre:sreFenced LAW.row.prog.main = true:=by rw [PySem.W.Fast.te11788848310118352699]; kernel_rfl
theorem said_res:namesResolve LAW.row.prog = true:=by rw [PySem.W.Fast.te8377067652309620493]; kernel_rfl
theorem said_vars:readsOut LAW.row.prog BB "vars" = false:=by rw [PySem.W.Fast.te13343964577679436407]; kernel_rfl
theorem said_dir:readsOut LAW.row.prog BB "dir" = false:=by rw [PySem.W.Fast.te13343964577679436407]; kernel_rfl
theorem said_loc:readsOut LAW.row.prog BB "locals" = false:=by rw [PySem.W.Fast.te13343964577679436407]; kernel_rfl
theorem filter3 {p:Str->Bool} {a b c:Str} (h1:p a = false) (h2:p b = false) (h3:p c = false):[a,b,c].filter p = []:=by simp [h1,h2,h3]
theorem said_road0:noRoadLSs { strict:=!(importedModules BB).all cThrough.contains,foot:=none,bare:=[] } BB = true:=by rw [PySem.W.Fast.te8326940854005059898]; kernel_rfl
theorem said_road:noRoadLSs { strict:=!(importedModules BB).all cThrough.contains,foot:=none,bare:=(["vars","dir","locals"]:List Str).filter (readsOut LAW.row.prog BB) } BB = true:=by rw [filter3 said_vars said_dir said_loc]; exact said_road0
theorem said_attr:(namesMeet LAW.row.prog BB fun _ n=>attrL n) = true:=by rw [show @namesMeet = _ from PySem.W.Fast.te17119622794617984870,show @attrL = _ from PySem.W.Fast.te17868728402115742887]; kernel_rfl
theorem said_looks:looksOpen LAW.row.prog = true:=look_both (look_both (look_both (look_both (look_both said_sre (by kernel_rfl)) said_res) (by kernel_rfl)) said_road) said_attr
theorem said_part:LAW.row.partSaid = true:=look_both (look_both (look_both (look_both (look_both (look_both (look_both (look_both (look_both (look_both (look_both (look_both (look_both said_looks (by kernel_rfl)) (by kernel_rfl)) (by kernel_rfl)) (by kernel_rfl)) (by kernel_rfl)) (by kernel_rfl)) (by kernel_rfl)) (by kernel_rfl)) (by kernel_rfl)) (by kernel_rfl)) (by kernel_rfl)) (by kernel_rfl)) (by kernel_rfl)
theorem said_row:LAW.row.wellSaid = true:=look_both (look_both said_part (by kernel_rfl)) (by kernel_rfl)
theorem said_own:LAW.own.all (fun n=>!builtinNamed n) = true:=by rw [show @builtinNamed = PySem.W.Fast.qNamed from PySem.W.Fast.named_eq]; kernel_rfl
theorem said_bound:LAW.bound'.all (fun n=>!builtinNamed n || LAW.about == [n] || !LAW.reads n) = true:=by rw [show @builtinNamed = PySem.W.Fast.qNamed from PySem.W.Fast.named_eq]; kernel_rfl
theorem said_may:namesMeet LAW.prog LAW.footing (fun sc n=>(!(["type","isinstance","issubclass","getattr","hasattr"]:List Str).contains n || sc.names.lookup n == some .globalImplicit) &&
 (LAW.may != some n || sc.kind == .module || sc.names.lookup n == some .globalImplicit)) = true:=by kernel_rfl
theorem said_ok:OpenLaw.wellSaid LAW = true :=
 look_both (look_both (look_both (look_both (look_both (look_both (look_both (look_both (look_both (look_both (look_both (look_both (look_both (look_both (look_both (look_both (look_both (look_both said_row (by kernel_rfl)) (by kernel_rfl)) (by kernel_rfl)) (by kernel_rfl)) (by kernel_rfl)) (by kernel_rfl)) (by kernel_rfl)) (by kernel_rfl)) (by kernel_rfl)) said_bound) (by kernel_rfl)) (by kernel_rfl)) said_may) (by kernel_rfl)) (by kernel_rfl)) said_own) (by kernel_rfl)) (by kernel_rfl)
theorem whole (call:CallOk):PySem.Challenge.rw_ai0042_01.Holds:=by
 refine holds_law said_ok fun said=>?_
 exact ⟨by assumption,promised_ok,law_holds call⟩
noncomputable def fnA:FId->Addr
 | .vowels=>867 | .letters=>874 | .parts=>881 | .nouns=>888 | .verbs=>896 | .last=>903 | .end_=>922 | .cut=>929 | .less=>936 | .behind=>943 | .marked=>950 | .first=>957 | .or_=>964 | .adverb=>971 | .noun=>978 | .verb=>985 | .rest=>992 | .plain=>999 | .stem=>1006 | .word=>915
noncomputable def mtA:MId->Addr
 | .in_grouping=>63 | .go_in_grouping=>70 | .in_grouping_b=>77 | .go_out_grouping=>98 | .out_grouping_b=>105 | .eq_s=>119 | .eq_s_b=>126 | .find_among=>133 | .find_among_b=>140 | .replace_s=>147 | .slice_from=>154 | .slice_del=>161 | .set_current=>42 | .get_current=>49 | .stemWord=>189 | .elisions=>240 | .prelude=>247 | .mark_regions=>254 | .postlude=>261 | .rV=>268 | .r1=>275 | .r2=>282 | .standard=>289 | .i_verb=>296 | .verb=>303 | .residual=>310 | .un_double=>317 | .un_accent=>324 | .stem_=>331
noncomputable def tabA:Tab->Addr
 | .gv=>230 | .oux=>231 | .eli=>232 | .kws=>233 | .a0=>344 | .a1=>366 | .a2=>385 | .a3=>395 | .a4=>528 | .a5=>634 | .a6=>644 | .a7=>768 | .a8=>787 | .a9=>803
noncomputable def mtK:MId->Nat
 | .in_grouping=>0 | .go_in_grouping=>0 | .in_grouping_b=>0 | .go_out_grouping=>0 | .out_grouping_b=>0 | .eq_s=>0 | .eq_s_b=>0 | .find_among=>0 | .find_among_b=>0 | .replace_s=>0 | .slice_from=>0 | .slice_del=>0 | .set_current=>0 | .get_current=>0 | .stemWord=>0 | .elisions=>2 | .prelude=>2 | .mark_regions=>2 | .postlude=>2 | .rV=>2 | .r1=>2 | .r2=>2 | .standard=>2 | .i_verb=>2 | .verb=>2 | .residual=>2 | .un_double=>2 | .un_accent=>2 | .stem_=>2
noncomputable def mtQ (g:MId):Str:=match mtK g with
 | 0=>Str.ofString "BaseStemmer." ++ mnm g
 | _=>Str.ofString "FrenchStemmer." ++ mnm g
noncomputable def fSt (g:FId):Stmt:=fnStmt (clsOf 3) (fnm g)
noncomputable def mSt (g:MId):Stmt:=fnStmt (clsOf (mtK g)) (mnm g)
noncomputable def scS (s:Stmt):Scope:=by
 cases s with
 | FunctionDef _ _ _ _ _ _ sc=>exact sc
 | _=>exact PH.main.scope
noncomputable def bdS (s:Stmt):List Stmt:=by
 cases s with
 | FunctionDef _ _ b=>exact b
 | _=>exact []
noncomputable def nmS (s:Stmt):List Str:=by
 cases s with
 | FunctionDef _ a=>exact a.args.map (·.arg)
 | _=>exact []
noncomputable def fdS (q:Str) (md:Value) (cd:Addr) (st:Stmt):FuncData:=match fnObj q md cd st with
 | ⟨_,_,.func f,_⟩=>f
 | _=>default
noncomputable def isFd (s:Stmt):Bool:=by
 cases s with
 | FunctionDef=>exact true
 | _=>exact false
noncomputable def fnChk (st:Stmt):Bool:=isFd st && (!(scS st).isCoroutine && (!(scS st).isGenerator && (decide ((scS st).kind = .function) && ((scS st).names.all (fun x=>decide (x.2 ≠ .cell)) && (decide ((locsOf (scS st)).take (nmS st).length = nmS st) &&
 (decide (locsOf (scS st)).Nodup && ((nmS st).all (fun x=>decide ((scS st).names.lookup x = some .local)) && decide ((nmS st).length <= (locsOf (scS st)).length))))))))
noncomputable def irChk (st:Stmt) (ir:IFn):Bool:=chkSs (scS st) ir.body (bdS st) && (decide ((nmS st).length = ir.np) && decide (ir.nl = (locsOf (scS st)).length))
def BindOk (fd:FuncData) (names:List Str):Prop:=∀ vs:List Value,vs.length = names.length->bindArgs fd ⟨vs,[]⟩ = pure (names.zip vs)
theorem bind0 {fd:FuncData} {names:List Str} (h:names = []) (k:bindArgs fd ⟨[],[]⟩ = pure []):BindOk fd names:=fun vs hl=>by
 subst h
 rw [List.length_eq_zero_iff.mp hl]; exact k
theorem bindS {fd:FuncData} {names:List Str} {a:Str} {r:List Str} (h:names = a :: r) (k:∀ x,∀ vs:List Value,vs.length = r.length->bindArgs fd ⟨x :: vs,[]⟩ = pure ((a,x) :: r.zip vs)):BindOk fd names:=fun vs hl=>by
 subst h
 cases vs with
 | nil=>cases hl
 | cons x vs=>exact k x vs (Nat.succ.inj hl)
theorem bind_nil {P:List Value->Prop} (h:P []) (vs:List Value) (hl:vs.length = ([]:List Str).length):P vs:=by rw [List.length_eq_zero_iff.mp hl]; exact h
theorem bind_cons {P:List Value->Prop} {a:Str} {r:List Str} (h:∀ x,∀ vs:List Value,vs.length = r.length->P (x :: vs)) (vs:List Value) (hl:vs.length = (a :: r).length):P vs:=by
 cases vs with
 | nil=>cases hl
 | cons x vs=>exact h x vs (Nat.succ.inj hl)
theorem fd_ok {st:Stmt} {G:Prop} (h:isFd st = true) (k:∀ n a b d r tp sc ts bd p,st = .FunctionDef n a b d r tp sc ts bd p->G):G:=Stmt.casesOn (motive_2:=fun t=>st = t->isFd t = true->G) st (fun n a b d r tp sc ts bd p he _=>k n a b d r tp sc ts bd p he) (fun _ _ _ _ _ _ _ _ _ _ _ h=>absurd h fT) (fun _ _ _ _ _ _ _ _ _ _ _ _ h=>absurd h fT) (fun _ _ _ h=>absurd h fT) (fun _ _ _ h=>absurd h fT) (fun _ _ _ _ h=>absurd h fT) (fun _ _ _ _ _ _ _ _ h=>absurd h fT) (fun _ _ _ _ _ h=>absurd h fT) (fun _ _ _ _ _ _ h=>absurd h fT) (fun _ _ _ _ _ _ h=>absurd h fT) (fun _ _ _ _ _ _ h=>absurd h fT) (fun _ _ _ _ _ h=>absurd h fT) (fun _ _ _ _ _ h=>absurd h fT) (fun _ _ _ _ h=>absurd h fT) (fun _ _ _ _ h=>absurd h fT) (fun _ _ _ _ h=>absurd h fT) (fun _ _ _ _ h=>absurd h fT) (fun _ _ _ _ _ _ h=>absurd h fT) (fun _ _ _ _ _ _ h=>absurd h fT) (fun _ _ _ _ h=>absurd h fT) (fun _ _ _ h=>absurd h fT) (fun _ _ _ _ _ h=>absurd h fT) (fun _ _ _ h=>absurd h fT) (fun _ _ _ h=>absurd h fT) (fun _ _ _ h=>absurd h fT) (fun _ _ h=>absurd h fT) (fun _ _ h=>absurd h fT) (fun _ _ h=>absurd h fT) rfl h
theorem fd_data {q:Str} {md:Value} {cd:Addr} {st:Stmt} (h:isFd st = true):(fnObj q md cd st).data = .func (fdS q md cd st) /\ (fdS q md cd st).body = .stmts (bdS st) /\ (fdS q md cd st).scope = scS st /\ (fdS q md cd st).globals = mainGlobals /\ (fdS q md cd st).closure = [] /\ (fdS q md cd st).builtins = builtinsNs /\ (fdS q md cd st).qualname = q /\ (fdS q md cd st).code = .ref cd :=
 fd_ok h fun n a b d r tp sc ts bd p he=>by rw [he]; exact ⟨rfl,rfl,rfl,rfl,rfl,rfl,rfl,rfl⟩
theorem fnAt_of {w:World} {H:Heap} (X:Top w H) {a:Addr} {md:Value} {q:Str} {ir:IFn} {st:Stmt} (hk:(KL w).lookup a = some (fnObj q md (a - 1) st)) (hq:fnAddrs.contains (a,q) = true) (hi:irChk st ir = true)
 (chk:fnChk st = true) (hb:BindOk (fdS q md (a - 1) st) (nmS st)):FnAt H a (scS st) (bdS st) ir (nmS st) q (.ref (a - 1)):=by
 obtain ⟨t1,h⟩:=and_inv hi
 obtain ⟨t2,t3⟩:=and_inv h
 obtain ⟨c1,h⟩:=and_inv chk
 obtain ⟨c2,h⟩:=and_inv h
 obtain ⟨c3,h⟩:=and_inv h
 obtain ⟨c4,h⟩:=and_inv h
 obtain ⟨c5,h⟩:=and_inv h
 obtain ⟨c6,h⟩:=and_inv h
 obtain ⟨c7,h⟩:=and_inv h
 obtain ⟨c8,c9⟩:=and_inv h
 have t2:=of_decide_eq_true t2
 have t3:=of_decide_eq_true t3
 refine ⟨⟨_,fdS q md (a - 1) st,X.K _ _ hk,?_⟩,X.code a q (List.contains_iff_mem.mp hq),not_inv c2,not_inv c3,of_decide_eq_true c4,fun x hx=>of_decide_eq_true (List.all_eq_true.mp c5 x hx),t1,t2,t3,by rw [<- t2,t3]; exact of_decide_eq_true c9,fun i hi=>?_,of_decide_eq_true c7,fun x hx=>of_decide_eq_true (List.all_eq_true.mp c8 x hx)⟩
 ·obtain ⟨z1,z2,z3,z4,z5,z6,z7,z8⟩:=fd_data (q:=q) (md:=md) (cd:=a - 1) c1
  exact ⟨z1,z2,z3,z4,z5,z6,z7,z8,hb⟩
 ·rw [<- t2] at hi
  conv=>rhs; rw [<- of_decide_eq_true c6]
  rw [List.getElem?_take_of_lt hi]
theorem fm_lookup (w:World) (g:MId):(KL w).lookup (mtA g) = some (fnObj (mtQ g) (mdOf (mtK g)) (mtA g - 1) (mSt g)):=by cases g <;> kernel_rfl
theorem ff_lookup (w:World) (g:FId):(KL w).lookup (fnA g) = some (fnObj (fnm g) (mdOf 3) (fnA g - 1) (fSt g)):=by cases g <;> kernel_rfl
theorem fm_addr (g:MId):fnAddrs.contains (mtA g,mtQ g) = true:=by cases g <;> kernel_rfl
theorem ff_addr (g:FId):fnAddrs.contains (fnA g,fnm g) = true:=by cases g <;> kernel_rfl
theorem fm_chk (g:MId):irChk (mSt g) (irM g) = true:=by cases g <;> kernel_rfl
theorem fm_fn (g:MId):fnChk (mSt g) = true:=by cases g <;> kernel_rfl
theorem ff_fn (g:FId):fnChk (fSt g) = true:=by cases g <;> kernel_rfl
structure Sets where
 a:Hole
 b:Hole
 c:Hole
 d:Hole
noncomputable def KS (w:World) (S:Sets):Frag:=KL w ++ [(230,S.a.obj),(231,S.b.obj),(232,S.c.obj),(233,S.d.obj)]
structure SetsIn (h:Heap) (S:Sets):Prop where
 a:h.get? 230 = some S.a.obj
 b:h.get? 231 = some S.b.obj
 c:h.get? 232 = some S.c.obj
 d:h.get? 233 = some S.d.obj
theorem setAt_hole {w:World} {h:Heap} {a:Addr} {l:List T} (x:SetAt w h a l):∃ H:Hole,h.get? a = some H.obj:=by
 obtain ⟨n,⟨o,es,ep,t,ho,⟨e1,e2,e3⟩,hd,_⟩,_⟩:=x
 refine ⟨⟨es,ep,t⟩,?_⟩
 rw [ho]
 obtain ⟨c,d,dt,sl⟩:=o
 simp only at e1 e2 e3 hd
 subst e1 e2 e3 hd
 rfl
theorem setsIn_of {w:World} {h:Heap} (X:Top w h):∃ S,SetsIn h S:=by
 obtain ⟨z0,z1,z2,z3⟩:=X.sets
 obtain ⟨a,ha⟩:=setAt_hole z0
 obtain ⟨b,hb⟩:=setAt_hole z1
 obtain ⟨c,hc⟩:=setAt_hole z2
 obtain ⟨d,hd⟩:=setAt_hole z3
 exact ⟨⟨a,b,c,d⟩,ha,hb,hc,hd⟩
theorem lookup_append {α:Type} [BEq α] {β:Type}:∀ {l r:List (α × β)} {x:α},(l ++ r).lookup x = (l.lookup x).or (r.lookup x)
 | [],r,x=>by simp
 |(a,b) :: l,r,x=>by
  rw [List.cons_append,List.lookup_cons,List.lookup_cons]
  cases x == a with
  | true=>simp
  | false=>exact lookup_append
theorem KS_in {w:World} {h:Heap} {S:Sets} (X:Top w h) (Z:SetsIn h S):(KS w S).In h:=by
 intro a o e
 unfold KS at e
 rw [lookup_append] at e
 cases q:(KL w).lookup a with
 | some u=>rw [q] at e; cases e; exact X.K a _ q
 | none =>
  rw [q] at e
  have hm:=mem_lookup (show List.lookup a [((230:Addr),S.a.obj),(231,S.b.obj),(232,S.c.obj),(233,S.d.obj)] = some o from by simpa using e)
  simp only [List.mem_cons,Prod.mk.injEq,List.not_mem_nil,or_false] at hm
  rcases hm with ⟨rfl,rfl⟩ | ⟨rfl,rfl⟩ | ⟨rfl,rfl⟩ | ⟨rfl,rfl⟩
  ·exact Z.a
  ·exact Z.b
  ·exact Z.c
  ·exact Z.d
theorem kOk (w:World) (S:Sets):KOk (KS w S) 806 218 where
 ga:=by kernel_rfl
 gt:=by kernel_rfl
 sa:=by kernel_rfl
 po:=by kernel_rfl
 hd:=by kernel_rfl
 fld:=fun f=>by
  cases f with
  | cur=>exact ⟨none,by kernel_rfl,by kernel_rfl⟩
  | csr=>exact ⟨none,by kernel_rfl,by kernel_rfl⟩
  | lim=>exact ⟨none,by kernel_rfl,by kernel_rfl⟩
  | lb=>exact ⟨none,by kernel_rfl,by kernel_rfl⟩
  | bra=>exact ⟨none,by kernel_rfl,by kernel_rfl⟩
  | ket=>exact ⟨none,by kernel_rfl,by kernel_rfl⟩
  | p2=>exact ⟨some (.int 0 563),by kernel_rfl,by kernel_rfl⟩
  | p1=>exact ⟨some (.int 0 565),by kernel_rfl,by kernel_rfl⟩
  | pV=>exact ⟨some (.int 0 567),by kernel_rfl,by kernel_rfl⟩
 tak:=fun f=>by cases f <;> kernel_rfl
 aga:=by kernel_rfl
 ahd:=by kernel_rfl
 aS:=by kernel_rfl
 aI:=by kernel_rfl
 aR:=by kernel_rfl
 len:=⟨by kernel_rfl,by kernel_rfl⟩
 ord:=⟨by kernel_rfl,by kernel_rfl⟩
 min:=⟨by kernel_rfl,by kernel_rfl⟩
 list:=⟨by kernel_rfl,by kernel_rfl⟩
 range:=⟨by kernel_rfl,by kernel_rfl⟩
noncomputable def labC:Lab->Addr
 | .l0=>818
 | .l1=>831
 | .l2=>844
 | .l3=>857
noncomputable def objK (w:World) (a:Addr):Obj:=((KL w).lookup a).getD default
theorem ns_K {w:World} {H:Heap} (X:Top w H) {a:Addr} (e:(KL w).lookup a = some (objK w a)) (hd:(objK w a).data = .dict (esOfObj (objK w a)) (epOf (objK w a))) (hk:(esOfObj (objK w a)).toList.all (fun x=>match x.key with | .str ..=>true | _=>false) = true) :
 H.Ns a (nsFind (esOfObj (objK w a))):=dict_ns (X.K _ _ e) hd hk
theorem labAt {w:World} {H:Heap} (X:Top w H) (l:Lab):LabAt H (labC l):=by
 cases l with
 | l0=>exact ⟨"lab0",817,809,2865,2873,_,X.K 818 _ (by kernel_rfl),ns_K X (a:=817) (by kernel_rfl) (by kernel_rfl) (by kernel_rfl),by kernel_rfl⟩
 | l1=>exact ⟨"lab1",830,822,2885,2893,_,X.K 831 _ (by kernel_rfl),ns_K X (a:=830) (by kernel_rfl) (by kernel_rfl) (by kernel_rfl),by kernel_rfl⟩
 | l2=>exact ⟨"lab2",843,835,2905,2913,_,X.K 844 _ (by kernel_rfl),ns_K X (a:=843) (by kernel_rfl) (by kernel_rfl) (by kernel_rfl),by kernel_rfl⟩
 | l3=>exact ⟨"lab3",856,848,2925,2933,_,X.K 857 _ (by kernel_rfl),ns_K X (a:=856) (by kernel_rfl) (by kernel_rfl) (by kernel_rfl),by kernel_rfl⟩
theorem noLimit {w:World} {H:Heap} (X:Top w H):H.NoLimit:=⟨_,ns_K X (a:=2) (by kernel_rfl) (by kernel_rfl) (by kernel_rfl),by kernel_rfl⟩
theorem labs {w:World} {H:Heap} (X:Top w H) (S:Sets) (k:Lab):nsIn (KS w S) mainGlobals (lnm k) = some (some (.ref (labC k))) /\ LabAt H (labC k):=⟨by cases k <;> kernel_rfl,labAt X k⟩
theorem fm_bind (g:MId):BindOk (fdS (mtQ g) (mdOf (mtK g)) (mtA g - 1) (mSt g)) (nmS (mSt g)):=by
 cases g with
 | in_grouping=>exact bindS (a:="self") (r:=["s"]) (by kernel_rfl) fun x=>bind_cons fun y=>bind_nil (by kernel_rfl)
 | go_in_grouping=>exact bindS (a:="self") (r:=["s"]) (by kernel_rfl) fun x=>bind_cons fun y=>bind_nil (by kernel_rfl)
 | in_grouping_b=>exact bindS (a:="self") (r:=["s"]) (by kernel_rfl) fun x=>bind_cons fun y=>bind_nil (by kernel_rfl)
 | go_out_grouping=>exact bindS (a:="self") (r:=["s"]) (by kernel_rfl) fun x=>bind_cons fun y=>bind_nil (by kernel_rfl)
 | out_grouping_b=>exact bindS (a:="self") (r:=["s"]) (by kernel_rfl) fun x=>bind_cons fun y=>bind_nil (by kernel_rfl)
 | eq_s=>exact bindS (a:="self") (r:=["s"]) (by kernel_rfl) fun x=>bind_cons fun y=>bind_nil (by kernel_rfl)
 | eq_s_b=>exact bindS (a:="self") (r:=["s"]) (by kernel_rfl) fun x=>bind_cons fun y=>bind_nil (by kernel_rfl)
 | find_among=>exact bindS (a:="self") (r:=["v"]) (by kernel_rfl) fun x=>bind_cons fun y=>bind_nil (by kernel_rfl)
 | find_among_b=>exact bindS (a:="self") (r:=["v"]) (by kernel_rfl) fun x=>bind_cons fun y=>bind_nil (by kernel_rfl)
 | replace_s=>exact bindS (a:="self") (r:=["c_bra","c_ket","s"]) (by kernel_rfl) fun x=>bind_cons fun y=>bind_cons fun z=>bind_cons fun u=>bind_nil (by kernel_rfl)
 | slice_from=>exact bindS (a:="self") (r:=["s"]) (by kernel_rfl) fun x=>bind_cons fun y=>bind_nil (by kernel_rfl)
 | slice_del=>exact bindS (a:="self") (r:=[]) (by kernel_rfl) fun x=>bind_nil (by kernel_rfl)
 | set_current=>exact bindS (a:="self") (r:=["value"]) (by kernel_rfl) fun x=>bind_cons fun y=>bind_nil (by kernel_rfl)
 | get_current=>exact bindS (a:="self") (r:=[]) (by kernel_rfl) fun x=>bind_nil (by kernel_rfl)
 | stemWord=>exact bindS (a:="self") (r:=["word"]) (by kernel_rfl) fun x=>bind_cons fun y=>bind_nil (by kernel_rfl)
 | elisions=>exact bindS (a:="self") (r:=[]) (by kernel_rfl) fun x=>bind_nil (by kernel_rfl)
 | prelude=>exact bindS (a:="self") (r:=[]) (by kernel_rfl) fun x=>bind_nil (by kernel_rfl)
 | mark_regions=>exact bindS (a:="self") (r:=[]) (by kernel_rfl) fun x=>bind_nil (by kernel_rfl)
 | postlude=>exact bindS (a:="self") (r:=[]) (by kernel_rfl) fun x=>bind_nil (by kernel_rfl)
 | rV=>exact bindS (a:="self") (r:=[]) (by kernel_rfl) fun x=>bind_nil (by kernel_rfl)
 | r1=>exact bindS (a:="self") (r:=[]) (by kernel_rfl) fun x=>bind_nil (by kernel_rfl)
 | r2=>exact bindS (a:="self") (r:=[]) (by kernel_rfl) fun x=>bind_nil (by kernel_rfl)
 | standard=>exact bindS (a:="self") (r:=[]) (by kernel_rfl) fun x=>bind_nil (by kernel_rfl)
 | i_verb=>exact bindS (a:="self") (r:=[]) (by kernel_rfl) fun x=>bind_nil (by kernel_rfl)
 | verb=>exact bindS (a:="self") (r:=[]) (by kernel_rfl) fun x=>bind_nil (by kernel_rfl)
 | residual=>exact bindS (a:="self") (r:=[]) (by kernel_rfl) fun x=>bind_nil (by kernel_rfl)
 | un_double=>exact bindS (a:="self") (r:=[]) (by kernel_rfl) fun x=>bind_nil (by kernel_rfl)
 | un_accent=>exact bindS (a:="self") (r:=[]) (by kernel_rfl) fun x=>bind_nil (by kernel_rfl)
 | stem_=>exact bindS (a:="self") (r:=[]) (by kernel_rfl) fun x=>bind_nil (by kernel_rfl)
theorem ff_bind (g:FId):BindOk (fdS (fnm g) (mdOf 3) (fnA g - 1) (fSt g)) (nmS (fSt g)):=by
 cases g with
 | vowels=>exact bind0 (by kernel_rfl) (by kernel_rfl)
 | letters=>exact bind0 (by kernel_rfl) (by kernel_rfl)
 | parts=>exact bind0 (by kernel_rfl) (by kernel_rfl)
 | last=>exact bind0 (by kernel_rfl) (by kernel_rfl)
 | end_=>exact bindS (a:="word") (r:=["ends","low"]) (by kernel_rfl) fun x=>bind_cons fun y=>bind_cons fun z=>bind_nil (by kernel_rfl)
 | cut=>exact bindS (a:="word") (r:=["end"]) (by kernel_rfl) fun x=>bind_cons fun y=>bind_nil (by kernel_rfl)
 | less=>exact bindS (a:="word") (r:=["ends","low"]) (by kernel_rfl) fun x=>bind_cons fun y=>bind_cons fun z=>bind_nil (by kernel_rfl)
 | behind=>exact bindS (a:="word") (r:=["at"]) (by kernel_rfl) fun x=>bind_cons fun y=>bind_nil (by kernel_rfl)
 | marked=>exact bindS (a:="word") (r:=[]) (by kernel_rfl) fun x=>bind_nil (by kernel_rfl)
 | first=>exact bindS (a:="word") (r:=[]) (by kernel_rfl) fun x=>bind_nil (by kernel_rfl)
 | or_=>exact bindS (a:="word") (r:=["end","low","other"]) (by kernel_rfl) fun x=>bind_cons fun y=>bind_cons fun z=>bind_cons fun u=>bind_nil (by kernel_rfl)
 | adverb=>exact bindS (a:="head") (r:=["first","one","two"]) (by kernel_rfl) fun x=>bind_cons fun y=>bind_cons fun z=>bind_cons fun u=>bind_nil (by kernel_rfl)
 | noun=>exact bindS (a:="word") (r:=["first","one","two"]) (by kernel_rfl) fun x=>bind_cons fun y=>bind_cons fun z=>bind_cons fun u=>bind_nil (by kernel_rfl)
 | verb=>exact bindS (a:="word") (r:=["first","two"]) (by kernel_rfl) fun x=>bind_cons fun y=>bind_cons fun z=>bind_nil (by kernel_rfl)
 | rest=>exact bindS (a:="word") (r:=["first","two"]) (by kernel_rfl) fun x=>bind_cons fun y=>bind_cons fun z=>bind_nil (by kernel_rfl)
 | plain=>exact bindS (a:="word") (r:=[]) (by kernel_rfl) fun x=>bind_nil (by kernel_rfl)
 | stem=>exact bindS (a:="word") (r:=[]) (by kernel_rfl) fun x=>bind_nil (by kernel_rfl)
 | word=>exact bindS (a:="numbers") (r:=["ends"]) (by kernel_rfl) fun x=>bind_cons fun y=>bind_nil (by kernel_rfl)
 | nouns=>exact bind0 (by kernel_rfl) (by kernel_rfl)
 | verbs=>exact bind0 (by kernel_rfl) (by kernel_rfl)
theorem fm {w:World} {H:Heap} (X:Top w H) (g:MId):FnAt H (mtA g) (scS (mSt g)) (bdS (mSt g)) (irM g) (nmS (mSt g)) (mtQ g) (.ref (mtA g - 1)):=fnAt_of X (fm_lookup w g) (fm_addr g) (fm_chk g) (fm_fn g) (fm_bind g)
noncomputable def easy (g:FId):Bool:=match g with
 | .nouns=>false
 | .verbs=>false
 | _=>true
theorem ff_chk (g:FId) (h:easy g = true):irChk (fSt g) (irF g) = true:=by
 cases g with
 | nouns=>cases h
 | verbs=>cases h
 | _=>kernel_rfl
theorem ff {w:World} {H:Heap} (X:Top w H) (g:FId) (h:easy g = true):FnAt H (fnA g) (scS (fSt g)) (bdS (fSt g)) (irF g) (nmS (fSt g)) (fnm g) (.ref (fnA g - 1)):=fnAt_of X (ff_lookup w g) (ff_addr g) (ff_chk g h) (ff_fn g) (ff_bind g)
theorem obj_of {w:World} {H:Heap} (X:Top w H) {a:Addr} {q:Str} {md:Value} {cd:Addr} {st:Stmt} (hk:(KL w).lookup a = some (fnObj q md cd st)) (hf:isFd st = true):∃ o fd,H.get? a = some o /\ o.data = .func fd:=by
 exact ⟨_,fdS q md cd st,X.K _ _ hk,(fd_data hf).1⟩
theorem fnF {w:World} {H:Heap} (X:Top w H) (g:FId):∃ o fd,H.get? (fnA g) = some o /\ o.data = .func fd:=obj_of X (ff_lookup w g) (and_inv (ff_fn g)).1
theorem mtF {w:World} {H:Heap} (X:Top w H) (g:MId):∃ o fd,H.get? (mtA g) = some o /\ o.data = .func fd:=obj_of X (fm_lookup w g) (and_inv (fm_fn g)).1
theorem fn_ns (w:World) (S:Sets) (g:FId):nsIn (KS w S) mainGlobals (fnm g) = some (some (.ref (fnA g))):=by cases g <;> kernel_rfl
theorem mt_ns (w:World) (S:Sets) (g:MId):findIn (KS w S) (.ref 806) (mnm g) = some (some (.ref (mtA g))):=by cases g <;> kernel_rfl
theorem mt_ty (w:World) (S:Sets) (g:MId):typeIn (KS w S) (.ref (mtA g)) = some (.type "function"):=by cases g <;> kernel_rfl
theorem tab_cls (w:World) (S:Sets) (t:Tab):findCls (KS w S) (.ref 806) (.type "type") (tnm t) = some (.val (.ref (tabA t))):=by cases t <;> kernel_rfl
theorem short_ns (w:World) (S:Sets):nsIn (KS w S) mainGlobals "_law_short" = some (some (.ref 889)):=by kernel_rfl
theorem cls_ns (w:World) (S:Sets):nsIn (KS w S) mainGlobals "FrenchStemmer" = some (some (.ref 806)):=by kernel_rfl
theorem cls_reads (w:World) (S:Sets):readsIn (KS w S) 806 (.type "type") = true:=by kernel_rfl
theorem vrs_mk {c:Cx} {h:Heap}:∀ {xs:List V} {vs:List Value},xs.length = vs.length->(∀ (i:Nat) x v,xs[i]? = some x->vs[i]? = some v->VR c h x v)->VRs c h xs vs
 | [],vs,hl,_=>by rw [List.length_eq_zero_iff.mp hl.symm]; exact .nil
 | x :: xs,vs,hl,k=>by
  cases vs with
  | nil=>cases hl
  | cons v vs=>exact .cons (k 0 x v rfl rfl) (vrs_mk (Nat.succ.inj hl) fun i y u e1 e2=>k (i + 1) y u e1 e2)
theorem am_low:tabAddrs.all (fun p=>p.2.all fun e=>Nat.ble e.1.length 100) = true:=by kernel_rfl
theorem short_low:shortL.all (fun e=>Nat.ble e.length 100) = true:=by kernel_rfl
theorem low_lim {n:Nat} (h:Nat.ble n 100 = true):n <= lim:=Nat.le_trans (Nat.le_of_ble_eq_true h) (by decide)
structure Env0 (w:World) (S:Sets) (c:Cx):Prop where
 hw:c.w = w
 AC:c.AC = 218
 FC:c.FC = 806
 X:Top w c.H0
 Z:SetsIn c.H0 S
theorem Env0.lists {w:World} {S:Sets} {c:Cx} (e:Env0 w S c):∀ n,c.H0.get? n = none->n ≠ sysModules:=by
 intro n h q
 subst q
 have:=e.X.K 1 (boot_o_1 w.params) (by kernel_rfl)
 rw [show c.H0.get? 1 = none from h] at this
 cases this
section
variable {w:World} {S:Sets} {c:Cx}
theorem vrs_am (e:Env0 w S c) {b:Nat} {l:List (T × Int × Int)} (hm:(b,l) ∈ tabAddrs) (envs:List Env):VRs { c with envs:=envs } c.H0 (l.map amV) ((List.range l.length).map fun j=>Value.ref (b + 3 * j + 1)):=by
 refine vrs_mk (by simp) fun i x v e1 e2=>?_
 rw [List.getElem?_map] at e1 e2
 obtain ⟨p,h1,rfl⟩:=Option.map_eq_some_iff.mp e1
 obtain ⟨j,h2,rfl⟩:=Option.map_eq_some_iff.mp e2
 obtain ⟨hlt,h3⟩:=List.getElem?_eq_some_iff.mp h2
 rw [List.getElem_range] at h3
 subst h3
 have a:=e.X.am b l hm i p h1
 rw [<- e.AC] at a
 exact .amg a (low_lim (List.all_eq_true.mp (List.all_eq_true.mp am_low _ hm) p (List.mem_of_getElem? h1)))
theorem vr_am (e:Env0 w S c) {b a:Nat} {l:List (T × Int × Int)} (hm:(b,l) ∈ tabAddrs) (hk:(KL w).lookup a = some (lstE a b l.length).2) (envs:List Env) (nm:∀ b o,c.H0.get? b = some o->¬ Cx.mut { c with envs:=envs } b) (hl:Nat.ble l.length 100 = true) :
 VR { c with envs:=envs } c.H0 (.list (l.map amV)) (.ref a):=by
 have g:=e.X.K _ _ hk
 exact .list (nm _ _ g) ⟨_,g,rfl,0,rfl⟩ (by rw [List.length_map]; exact low_lim hl) (vrs_am e hm envs)
theorem vr_tab (e:Env0 w S c) (t:Tab) (envs:List Env) (nm:∀ b o,c.H0.get? b = some o->¬ Cx.mut { c with envs:=envs } b):VR { c with envs:=envs } c.H0 (tabV t) (.ref (tabA t)):=by
 have hw:=e.hw
 obtain ⟨z0,z1,z2,z3⟩:=e.X.sets
 have st:∀ {a:Addr} {l:List T},SetAt w c.H0 a l->VR { c with envs:=envs } c.H0 (.set l) (.ref a):=fun {a l} z=>by
  obtain ⟨n,⟨o,es,ep,t,ho,r⟩,q⟩:=z
  exact .set (nm _ _ ho) (by show SetAt c.w c.H0 a l; rw [hw]; exact ⟨n,⟨o,es,ep,t,ho,r⟩,q⟩)
 cases t with
 | gv=>exact st z0
 | oux=>exact st z1
 | eli=>exact st z2
 | kws=>exact st z3
 | a0=>exact vr_am e (b:=332) (l:=t0L) (.head _) (by kernel_rfl) envs nm (by kernel_rfl)
 | a1=>exact vr_am e (b:=345) (l:=t1L) (.tail _ (.head _)) (by kernel_rfl) envs nm (by kernel_rfl)
 | a2=>exact vr_am e (b:=367) (l:=t2L) (.tail _ (.tail _ (.head _))) (by kernel_rfl) envs nm (by kernel_rfl)
 | a3=>exact vr_am e (b:=386) (l:=t3L) (.tail _ (.tail _ (.tail _ (.head _)))) (by kernel_rfl) envs nm (by kernel_rfl)
 | a4=>exact vr_am e (b:=396) (l:=t4L) (.tail _ (.tail _ (.tail _ (.tail _ (.head _))))) (by kernel_rfl) envs nm (by kernel_rfl)
 | a5=>exact vr_am e (b:=529) (l:=t5L) (.tail _ (.tail _ (.tail _ (.tail _ (.tail _ (.head _)))))) (by kernel_rfl) envs nm (by kernel_rfl)
 | a6=>exact vr_am e (b:=635) (l:=t6L) (.tail _ (.tail _ (.tail _ (.tail _ (.tail _ (.tail _ (.head _))))))) (by kernel_rfl) envs nm (by kernel_rfl)
 | a7=>exact vr_am e (b:=645) (l:=t7L) (.tail _ (.tail _ (.tail _ (.tail _ (.tail _ (.tail _ (.tail _ (.head _)))))))) (by kernel_rfl) envs nm (by kernel_rfl)
 | a8=>exact vr_am e (b:=769) (l:=t8L) (.tail _ (.tail _ (.tail _ (.tail _ (.tail _ (.tail _ (.tail _ (.tail _ (.head _))))))))) (by kernel_rfl) envs nm (by kernel_rfl)
 | a9=>exact vr_am e (b:=788) (l:=t9L) (.tail _ (.tail _ (.tail _ (.tail _ (.tail _ (.tail _ (.tail _ (.tail _ (.tail _ (.head _)))))))))) (by kernel_rfl) envs nm (by kernel_rfl)
theorem vr_short (e:Env0 w S c) (envs:List Env) (nm:∀ b o,c.H0.get? b = some o->¬ Cx.mut { c with envs:=envs } b):VR { c with envs:=envs } c.H0 shortV (.ref 889):=by
 obtain ⟨ts,hl,z⟩:=e.X.short
 obtain ⟨o,ho,r⟩:=z
 refine .list (nm _ _ ho) ⟨o,ho,r⟩ (by rw [List.length_map]; exact Nat.le_trans (by decide:shortL.length <= 100) (by decide)) (vrs_mk (by simp [hl]) fun i x v e1 e2=>?_)
 rw [List.getElem?_map] at e1 e2
 obtain ⟨p,h1,rfl⟩:=Option.map_eq_some_iff.mp e1
 obtain ⟨y,h2,rfl⟩:=Option.map_eq_some_iff.mp e2
 rw [List.getElem?_zip_eq_some] at h2
 obtain ⟨h3,h4⟩:=h2
 rw [h1] at h3
 cases h3
 exact .str _ _ (low_lim (List.all_eq_true.mp short_low _ (List.mem_of_getElem? h1)))
theorem tbl_mk (e:Env0 w S c) {C:Tbl} {k:Nat} (h1:C.short = shortV) (h2:C.tab = tabV) (hf:∀ g,Callee c k (fnA g) (C.fn g)) (hm:∀ g,Callee c k (mtA g) (slfRun (C.mt g))):TblOk c (KS w S) C k where
 fn:=fun g=>⟨_,fn_ns w S g,hf g⟩
 mt:=fun g=>⟨_,by rw [e.FC]; exact mt_ns w S g,mt_ty w S g,hm g⟩
 short:=⟨_,short_ns w S,fun envs nm=>by rw [h1]; exact vr_short e envs nm⟩
 tab:=fun t=>⟨_,by rw [e.FC]; exact tab_cls w S t,fun envs nm=>by rw [h2]; exact vr_tab e t envs nm⟩
 cls:=⟨by rw [e.FC]; exact cls_ns w S,by rw [e.FC]; exact cls_reads w S⟩
theorem callee_none {f:Addr} {run:List V->Stem->QE->Prop} {k:Nat} (hf:∃ o fd,c.H0.get? f = some o /\ o.data = .func fd) (hr:∀ vs s P,¬ run vs s P):Callee c k f run :=
 ⟨hf,fun envs A s sf vs args P Q E S hd hv e=>(hr _ _ _ e).elim⟩
theorem callee_congr {f:Addr} {r r':List V->Stem->QE->Prop} {k:Nat} (h:Callee c k f r) (e:∀ vs s P,r' vs s P->r vs s P):Callee c k f r' :=
 ⟨h.1,fun envs A s sf vs args P Q E S hd hv hr=>h.2 envs A s sf vs args P Q E S hd hv (e _ _ _ hr)⟩
theorem callee_at (e:Env0 w S c) {f:Addr} {sc:Scope} {body:List Stmt} {ir:IFn} {names:List Str} {q:Str} {cd:Value} {n:Nat} (F:FnAt c.H0 f sc body ir names q cd) {C:Tbl} {k:Nat} (p:Bool) (hp1:c.pos = true->p = true) (hp2:p = true->c.pos = true \/ names ≠ [])
 (Tb:TblOk { c with pos:=p } (KS w S) C k) (lo:C.loose = true->p = false) (lo':C.loose = false->p = true):Callee c (k + 1) f (runI C n ir) :=
 callee_of (K:=KS w S) (labC:=labC) F p hp1 hp2 (by rw [e.FC,e.AC]; exact kOk w S) (KS_in e.X e.Z) Tb e.lists lo lo' (labs e.X S) (noLimit e.X)
theorem Env0.pos (e:Env0 w S c) (p:Bool):Env0 w S { c with pos:=p }:=⟨e.hw,e.AC,e.FC,e.X,e.Z⟩
theorem slf_no {run:List V->Stem->QE->Prop} (h:∀ vs s P,¬ run vs s P) (vs:List V) (s:Stem) (P:QE):¬ slfRun run vs s P:=fun z=>by
 cases vs with
 | nil=>exact z
 | cons v r=>exact h _ _ _ (slfK_inv z).2
theorem tbl_strict0 (e:Env0 w S c) (k:Nat):TblOk { c with pos:=true } (KS w S) strict0 k :=
 tbl_mk (e.pos true) rfl rfl (fun g=>callee_none (fnF e.X g) fun _ _ _ h=>h) fun g=>callee_none (mtF e.X g) (slf_no fun _ _ _ h=>h)
theorem tbl_strict1 (e:Env0 w S c) (k:Nat):TblOk { c with pos:=true } (KS w S) strict1 (k + 1):=by
 refine tbl_mk (e.pos true) rfl rfl (fun g=>?_) fun g=>callee_none (mtF e.X g) (slf_no fun _ _ _ h=>h)
 cases g with
 | vowels=>exact callee_at (e.pos true) (ff e.X .vowels rfl) true (fun _=>rfl) (fun _=>.inl rfl) (tbl_strict0 (e.pos true) k) (fun z=>by cases z) (fun _=>rfl)
 | _=>exact callee_none (fnF e.X _) fun _ _ _ h=>h
structure Dicts (c:Cx):Prop where
 nouns:∀ k,Callee c (k + 1) 888 fun vs s P=>Must vs.isEmpty (P nounsV s)
 verbs:∀ k,Callee c (k + 1) 896 fun vs s P=>Must vs.isEmpty (P verbsV s)
theorem tbl_next (e:Env0 w S c) (hp:c.pos = false) (D:Dicts c) {C:Tbl} {k:Nat} (t:TblOk c (KS w S) C (k + 1)) (h1:C.tab = tabV) (h2:C.short = shortV) (h3:C.loose = true):TblOk c (KS w S) (nT C) (k + 2):=by
 have t':TblOk { c with pos:=false } (KS w S) C (k + 1):=by
  have:({ c with pos:=false }:Cx) = c:=by cases c; simp only at hp; rw [hp]
  rw [this]; exact t
 have at_:=fun {f:Addr} {sc:Scope} {body:List Stmt} {ir:IFn} {names:List Str} {q:Str} {cd:Value} (F:FnAt c.H0 f sc body ir names q cd) =>
  callee_at (n:=n0 + 1) e F false (fun z=>by rw [hp] at z; cases z) (fun z=>by cases z) t' (fun _=>rfl) fun z=>by rw [h3] at z; cases z
 refine tbl_mk e h2 h1 (fun g=>?_) fun g=>callee_congr (at_ (fm e.X g)) fun vs s P h=>?_
 ·have norm:∀ g,easy g = true->Callee c (k + 2) (fnA g) (runI C (n0 + 1) (irF g)):=fun g h=>at_ (ff e.X g h)
  cases g with
  | nouns=>exact D.nouns (k + 1)
  | verbs=>exact D.verbs (k + 1)
  | plain=>exact callee_at e (ff e.X .plain rfl) true (fun _=>rfl) (fun _=>.inr (by decide +kernel)) (tbl_strict1 e k) (fun z=>by cases z) fun _=>rfl
  | _=>exact norm _ rfl
 ·cases vs with
  | nil=>exact h.elim
  | cons v r=>obtain ⟨rfl,h⟩:=slfK_inv h; exact h
theorem tblAt_tab:∀ n,(tblAt n).tab = tabV /\ (tblAt n).short = shortV /\ (tblAt n).loose = true
 | 0=>⟨rfl,rfl,rfl⟩
 | n + 1=>tblAt_tab n
theorem tbl_at (e:Env0 w S c) (hp:c.pos = false) (D:Dicts c):∀ n,TblOk c (KS w S) (tblAt n) (n + 1)
 | 0=>tbl_mk e rfl rfl (fun g=>callee_none (fnF e.X g) fun _ _ _ h=>h) fun g=>callee_none (mtF e.X g) (slf_no fun _ _ _ h=>h)
 | n + 1=>tbl_next e hp D (tbl_at e hp D n) (tblAt_tab n).1 (tblAt_tab n).2.1 (tblAt_tab n).2.2
end
section
variable {w:World} {A:Around} {E:PR} {s:Shared}
theorem wp_if {M:Model} {α:Type} {c:Prop} [Decidable c] {a b:Sem α} {Q:α->Shared->Prop} (h:c) (k:wpAny M A a Q E s):wpAny M A (if c then a else b) Q E s:=by rw [if_pos h]; exact k
theorem wp_ifn {M:Model} {α:Type} {c:Prop} [Decidable c] {a b:Sem α} {Q:α->Shared->Prop} (h:¬ c) (k:wpAny M A b Q E s):wpAny M A (if c then a else b) Q E s:=by rw [if_neg h]; exact k
theorem dictPut_new {d:Addr} {kvs:List (Str × Value)} {k:Str} {key v:Value} {Q:Unit->Shared->Prop} (hkey:(sk w).is k key = true) (hm:s.heap.DictOf (sk w) d kvs) (hnot:k ∉ kvs.map (·.1)) (hsz:kvs.length <= sizeLine)
 (hQ:∀ h',h'.DictOf (sk w) d (kvs ++ [(k,v)])->Heap.SameBut d s.heap h'->Q () { s with heap:=h' }) :
 wpAny (MH w) A (dictPut d ((sk w).hash k) key v) Q E s:=by
 obtain ⟨o,es,ep,ho,hc,hd,hk,hp,hn⟩:=hm
 have hes:es.size <= sizeLine:=by
  have e1:=hp.length
  have e2:es.toList.length = es.size:=by simp
  lia
 unfold dictPut
 refine wpAny_bind (wpAny_dictFind_of hkey ho hd hk ?_)
 have hidx:(es.findIdx? fun e=>(sk w).is k e.key) = kvs.findIdx? fun kv=>decide (kv.1 = k):=by
  rw [<- hp.findIdx k]; obtain ⟨l⟩:=es; simp
 have hnone:(kvs.findIdx? fun kv=>decide (kv.1 = k)) = none:=by
  rw [List.findIdx?_eq_none_iff]
  intro kv hkv
  simp only [decide_eq_false_iff_not]
  exact fun e=>hnot (List.mem_map.mpr ⟨kv,hkv,e⟩)
 rw [hidx,hnone]
 refine wpAny_updateDictKeys (hz:=hes) ho hd (hQ _ ⟨_,_,ep + 1,Heap.get?_update_self _ ho (Obj.isFreed_of_dict (Obj.data_mapDictKeys hd _)),hc.mapDictKeys _,Obj.data_mapDictKeys hd _,hk.push hkey _,?_,?_⟩ (Heap.SameBut.update ..))
 ·have:=hp.append hkey ((sk w).hash k) v
  obtain ⟨l⟩:=es
  simpa using this
 ·rw [List.map_append,List.nodup_append]
  refine ⟨hn,by simp,?_⟩
  intro a ha b hb
  simp only [List.map_cons,List.map_nil,List.mem_singleton] at hb
  subst hb
  exact fun e=>hnot (e ▸ ha)
theorem merge_into {d o:Addr} {kvs more:List (Str × Value)} {Q:Unit->Shared->Prop} (hdo:d ≠ o) (hoS:(o == sysModules) = false) (hd:s.heap.DictOf (sk w) d kvs) (ho:s.heap.DictOf (sk w) o more) (hne:kvs ≠ [])
 (hdis:∀ k ∈ more.map (·.1),k ∉ kvs.map (·.1)) (hsz:kvs.length + more.length <= sizeLine)
 (hQ:∀ h',h'.DictOf (sk w) d (kvs ++ more)->Heap.SameBut d s.heap h'->Q () { s with heap:=h' }):wpAny (MH w) A (mergeMapping d (.ref o) false) Q E s:=by
 obtain ⟨oo,eso,epo,hoo,hco,hdo',hko,hpo,hno⟩:=id ho
 obtain ⟨od,esd,epd,hod,hcd,hdd,hkd,hpd,hnd⟩:=id hd
 have hlen:more.length = eso.size:=by
  have e1:=hpo.length; have e2:eso.toList.length = eso.size:=by simp
  lia
 have hnemp:esd.isEmpty = false:=by
  cases q:esd.isEmpty with
  | false=>rfl
  | true =>
   exfalso
   have h0:esd = #[]:=Array.isEmpty_iff.mp q
   have:=hpd.length
   rw [h0] at this
   exact hne (List.length_eq_zero_iff.mp (by simpa using this.symm))
 refine wpAny_bind (wpAny_isInstance ho.typeIs isSubtype_dict_dict (wp_if rfl ?_))
 refine wpAny_bind (wpAny_specialOf ho.typeIs F.slot_dict_iter.lookup (wpAny_bind (wpAny_pure (a:=true) ?_)))
 refine wp_ifn (by rw [hoS]; exact fT) ?_
 refine wpAny_bind (wpAny_dictEntries hod hdd (wp_ifn (by rw [hnemp]; exact fT) ?_))
 refine wpAny_bind (wpAny_dictEntries hoo hdo' ?_)
 refine wpAny_bind (wpAny_dictEpoch hoo hdo' ?_)
 rw [List.range_eq_range']
 refine wpAny_bind (wpAny_forIn_list _ (fun rest _ s'=>∃ h' i,s' = { s with heap:=h' } /\ rest = List.range' i (eso.size - i) /\ i <= eso.size /\ h'.DictOf (sk w) d (kvs ++ more.take i) /\ h'.get? o = some oo /\ Heap.SameBut d s.heap h')
  _ ?_ ?_ _ _ ⟨s.heap,0,rfl,by simp,Nat.zero_le _,by simpa using hd,hoo,Heap.SameBut.refl _ _⟩)
 ·intro x rest b s' h
  refine ex2 h fun h' i h=>an6 h fun es' hr hi hd' hoo' hs'=>?_
  subst es'
  have hlt:i < eso.size:=by
   rcases Nat.lt_or_ge i eso.size with h | h
   ·exact h
   ·rw [Nat.sub_eq_zero_of_le h] at hr; simp at hr
  obtain ⟨rfl,hrest⟩:x = i /\ rest = List.range' (i + 1) (eso.size - (i + 1)):=by
   have e:eso.size - i = (eso.size - (i + 1)) + 1:=by lia
   rw [e,List.range'_succ] at hr
   injection hr with h1 h2
   exact ⟨h1,h2⟩
  refine wpAny_bind (wpAny_dictEntries hoo' hdo' ?_)
  rw [Array.getElem?_eq_getElem hlt]
  obtain ⟨kv,hkv⟩:∃ kv,more[x]? = some kv:=⟨more[x]'(by rw [hlen]; exact hlt),List.getElem?_eq_getElem _⟩
  obtain ⟨k,v⟩:=kv
  obtain ⟨hkey,hval⟩:=hpo.get? (e:=eso[x]) (by simp [hlt]) hkv
  obtain ⟨k',hkey',hhash⟩:=hko eso[x] (Array.getElem_mem hlt)
  obtain rfl:k' = k:=(sk w).inj _ _ _ hkey' hkey
  refine wpAny_bind ?_
  show wpAny _ _ (holding [eso[x].key,eso[x].val] (dictPut d eso[x].hash eso[x].key eso[x].val)) _ _ _
  rw [hhash,hval]
  have hx2:x < more.length:=by lia
  have hget:more[x] = (k',v):=by
   have:=List.getElem?_eq_getElem hx2
   rw [hkv] at this
   exact (Option.some.inj this).symm
  have hnot:k' ∉ (kvs ++ more.take x).map (·.1):=by
   rw [List.map_append,List.mem_append]
   rintro (h1 | h1)
   ·exact hdis k' (List.mem_map.mpr ⟨_,List.mem_of_getElem? hkv,rfl⟩) h1
   ·obtain ⟨p,hp1,hp2⟩:=List.mem_map.mp h1
    obtain ⟨j,hj1,hj2⟩:=List.mem_iff_getElem.mp hp1
    rw [List.length_take] at hj1
    rw [List.getElem_take] at hj2
    have nd:(more.map (·.1)).Nodup:=hno
    have e1:(more.map (·.1))[j]? = some k':=by
     rw [List.getElem?_map,List.getElem?_eq_getElem (by lia),hj2]; simp [hp2]
    have e2:(more.map (·.1))[x]? = some k':=by rw [List.getElem?_map,hkv]; rfl
    have:=nodup_at nd e1 e2
    lia
  have hmx:(kvs ++ more.take x).length <= sizeLine:=by
   rw [List.length_append,List.length_take]; lia
  refine wpAny_holding (dictPut_new hkey hd' hnot hmx fun h'' hd'' hs''=>?_)
  have hoo'':h''.get? o = some oo:=(hs''.2 o (Ne.symm hdo)).trans hoo'
  refine wpAny_bind (wpAny_dictEpoch hoo'' hdo' ?_)
  refine wp_ifn (by simp) ?_
  exact wpAny_pure ⟨h'',x + 1,rfl,hrest,hlt,by rw [List.take_add_one,hkv,<- List.append_assoc]; exact hd'',hoo'',hs'.trans hs''⟩
 ·rintro b s' ⟨h',i,rfl,hr,hi,hd',hoo',hs'⟩
  have hin:i = eso.size:=by
   rcases Nat.lt_or_ge i eso.size with h | h
   ·have e:eso.size - i = (eso.size - (i + 1)) + 1:=by lia
    rw [e,List.range'_succ] at hr; exact nomatch hr
   ·exact Nat.le_antisymm hi h
  refine wpAny_pure (hQ h' ?_ hs')
  rw [hin,<- hlen,List.take_length] at hd'; exact hd'
end
section
variable {w:World} {A:Around} {E:PR} {s:Shared}
inductive EvP (w:World) (A:Around):List (Sem Value × Sem Value)->List (Str × Int)->Prop
 | nil:EvP w A [] []
 | cons {k v:Sem Value} {x:Str} {i:Int} {ps:List (Sem Value × Sem Value)} {P:List (Str × Int)} (hk:∀ (E:PR) (s:Shared) (Q:PR),Q (.str x s.toks) { s with toks:=s.toks + 1 }->wpAny (MH w) A k Q E s)
  (hv:∀ (E:PR) (s:Shared) (Q:PR),Q (.int i s.toks) { s with toks:=s.toks + 1 }->wpAny (MH w) A v Q E s) (r:EvP w A ps P):EvP w A ((k,v) :: ps) ((x,i) :: P)
inductive IV:List (Str × Value)->List (Str × Int)->Prop
 | nil:IV [] []
 | cons (x:Str) (i:Int) (t:Tok) {kvs:List (Str × Value)} {P:List (Str × Int)} (r:IV kvs P):IV ((x,.int i t) :: kvs) ((x,i) :: P)
theorem IV.keys {kvs:List (Str × Value)} {P:List (Str × Int)} (h:IV kvs P):kvs.map (·.1) = P.map (·.1):=by
 induction h with
 | nil=>rfl
 | cons x i t r ih=>rw [List.map_cons,List.map_cons,ih]
theorem IV.append {a b:List (Str × Value)} {P R:List (Str × Int)} (h:IV a P) (k:IV b R):IV (a ++ b) (P ++ R):=by
 induction h with
 | nil=>exact k
 | cons x i t r ih=>exact .cons x i t ih
theorem IV.len {kvs:List (Str × Value)} {P:List (Str × Int)} (h:IV kvs P):kvs.length = P.length:=by have:=congrArg List.length h.keys; simpa using this
theorem EvP.len {ps:List (Sem Value × Sem Value)} {P:List (Str × Int)} (h:EvP w A ps P):ps.length = P.length:=by
 induction h with
 | nil=>rfl
 | cons hk hv r ih=>exact congrArg (· + 1) ih
theorem stored_new {kvs:List (Str × Value)} {k:Str} {v:Value} (h:k ∉ kvs.map (·.1)):stored kvs k v = kvs ++ [(k,v)]:=by
 unfold stored
 rw [if_neg]
 rw [List.any_eq_true]
 rintro ⟨kv,hkv,he⟩
 exact h (List.mem_map.mpr ⟨kv,hkv,of_decide_eq_true he⟩)
theorem long_loop {d:Addr} {ps:List (Sem Value × Sem Value)} {P:List (Str × Int)} (e:EvP w A ps P):∀ (s:Shared) (acc:List (Str × Value)) (Q:PUnit->Shared->Prop),s.heap.DictOf (sk w) d acc->(P.map (·.1)).Nodup->(∀ k ∈ P.map (·.1),k ∉ acc.map (·.1)) ->
 acc.length + P.length <= sizeLine->(∀ h' kvs t,IV kvs P->h'.DictOf (sk w) d (acc ++ kvs)->Heap.SameBut d s.heap h'->s.toks <= t->Q PUnit.unit { s with heap:=h',toks:=t }) ->
 wpAny (MH w) A (forIn ps PUnit.unit fun (x:Sem Value × Sem Value) (_:PUnit)=>(do let kv <- x.1; let vv <- holding [kv] x.2; holding [kv,vv] (dictSet d kv vv); pure (ForInStep.yield PUnit.unit):Sem (ForInStep PUnit))) Q E s:=by
 induction e with
 | nil =>
  intro s acc Q hd _ _ _ hQ
  rw [List.forIn_nil]
  exact wpAny_pure (hQ s.heap [] s.toks .nil (by simpa using hd) (Heap.SameBut.refl _ _) (Nat.le_refl _))
 | @cons k v x i ps P hk hv r ih =>
  intro s acc Q hd hn hf hsz hQ
  rw [List.map_cons,List.nodup_cons] at hn
  rw [List.length_cons] at hsz
  rw [List.forIn_cons]
  refine wpAny_bind (wpAny_bind (hk _ _ _ ?_))
  refine wpAny_bind (wpAny_holding (hv _ _ _ ?_))
  refine wpAny_bind (wpAny_holding (wpAny_dictSet_pairs (hsz:=by lia) (PySem.strKind_is PH w x _) hd fun h₁ hd₁ hs₁=>?_))
  refine wpAny_pure ?_
  rw [stored_new (hf x (by simp))] at hd₁
  refine ih _ (acc ++ [(x,.int i (s.toks + 1))]) Q hd₁ hn.2 (fun k hk' hm=>?_) (by rw [List.length_append]; simp; lia) fun h' kvs t iv hd' hs' ht=>?_
  ·rw [List.map_append,List.mem_append] at hm
   rcases hm with hm | hm
   ·exact hf k (by simp [hk']) hm
   ·simp at hm; subst hm; exact hn.1 hk'
  ·refine hQ h' ((x,.int i (s.toks + 1)) :: kvs) t (.cons _ _ _ iv) (by simpa using hd') (Heap.SameBut.trans hs₁ hs') ?_
   have:s.toks + 1 + 1 + 1 <= t:=ht
   lia
theorem eval_pairs {ps:List (Sem Value × Sem Value)} {P:List (Str × Int)} (e:EvP w A ps P):∀ (s:Shared) (Q:List (Value × Value)->Shared->Prop),(∀ vs kvs t,IV kvs P->Carries (sk w) vs kvs->s.toks <= t->Q vs { s with toks:=t })->wpAny (MH w) A (evalPairs ps) Q E s:=by
 induction e with
 | nil=>exact fun s Q h=>evalPairs_nil (h [] [] s.toks .nil trivial (Nat.le_refl _))
 | @cons k v x i ps P hk hv r ih =>
  intro s Q h
  refine evalPairs_cons (hk _ _ _ (hv _ _ _ (ih _ _ fun vs kvs t iv hc ht=>?_)))
  refine h _ ((x,.int i (s.toks + 1)) :: kvs) t (.cons _ _ _ iv) ⟨PySem.strKind_is PH w x _,rfl,hc⟩ ?_
  have:s.toks + 1 + 1 <= t:=ht
  lia
theorem sub_any {ps:List (Sem Value × Sem Value)} {P:List (Str × Int)} (e:EvP w A ps P) (hl:ps.length <= 17) (hn:(P.map (·.1)).Nodup) {Q:Addr->Shared->Prop}
 (hQ:∀ h' kvs t,IV kvs P->h'.DictOf (sk w) s.heap.objs.size kvs->Heap.SameBut s.heap.objs.size (s.heap.push { cls:=.type "dict",data:=.dict #[] }) h'->s.toks <= t->Q s.heap.objs.size { s with heap:=h',toks:=t }):wpAny (MH w) A (subDict ps) Q E s:=by
 by_cases h15:ps.length <= 15
 ·refine wpAny_subDict (knd:=sk w) h15 (eval_pairs e _ _ fun vs kvs t iv hc ht=>⟨kvs,hc,Heap.DictOf.new _,fun h' hd hs=>?_⟩)
  rw [merged_nil_of_nodup _ (by rw [iv.keys]; exact hn)] at hd
  exact hQ h' kvs _ iv hd hs (by show s.toks <= t + vs.length; have:s.toks <= t:=ht; lia)
 ·unfold subDict
  refine wpAny_bind (wpAny_alloc ?_)
  refine wpAny_bind (wpAny_holding ?_)
  rw [if_neg h15]
  refine wpAny_bind (wpAny_rule ?_)
  have key:=long_loop (E:=E) (d:=s.heap.objs.size) e { s with heap:=s.heap.push { cls:=.type "dict",data:=.dict #[] } } [] (fun _ s'=>Q s.heap.objs.size s') (Heap.DictOf.new _) hn (fun k _ h=>by simp at h)
   (by have:=e.len; rw [sizeLine_eq,List.length_nil]; lia) fun h' kvs t iv hd hs ht=>hQ h' kvs t iv (by simpa using hd) hs ht
  refine wpAny_bind (wpAny_mono key (fun _ s' h=>wpAny_pure (wpAny_pure h)) fun _ _ x=>x)
end
noncomputable def flushD (run:List (Sem Value × Sem Value)) (main:Option Addr):Sem (Option Addr):=do
 if run.isEmpty then return main
 match main with
 | none=>return some (<- subDict run)
 | some d =>
  let sub <- holding [.ref d] (subDict run)
  (holding [.ref d,.ref sub] (mergeMapping d (.ref sub) false)).onRaise fun x=>do let _ <- holding [.ref d,x] (runValue (.builtin "proto.let_go" {}))
  return some d
noncomputable abbrev DSt:=Option Addr × List (Sem Value × Sem Value)
theorem gather_few (f:(Option (Sem Value) × Sem Value)->DSt->Sem (ForInStep DSt)) (hf:∀ (p:Sem Value × Sem Value) (m:Option Addr) (run:List (Sem Value × Sem Value)),run.length + 1 < 17->f (some p.1,p.2) (m,run) = pure (.yield (m,run ++ [p]))) (m:Option Addr) :
 ∀ (ps run:List (Sem Value × Sem Value)),run.length + ps.length < 17->forIn (ps.map fun p=>(some p.1,p.2)) ((m,run):DSt) f = pure (m,run ++ ps)
 | [],run,_=>by simp
 | p :: rest,run,h=>by
  rw [List.map_cons,List.forIn_cons,hf p m run (by simp at h; lia),pure_bind]
  have:=gather_few f hf m rest (run ++ [p]) (by simp at h ⊢; lia)
  simpa using this
theorem gather_full (f:(Option (Sem Value) × Sem Value)->DSt->Sem (ForInStep DSt)) (hf:∀ (p:Sem Value × Sem Value) (m:Option Addr) (run:List (Sem Value × Sem Value)),run.length + 1 < 17->f (some p.1,p.2) (m,run) = pure (.yield (m,run ++ [p])))
 (hg:∀ (p:Sem Value × Sem Value) (m:Option Addr) (run:List (Sem Value × Sem Value)),run.length + 1 = 17->f (some p.1,p.2) (m,run) = flushD (run ++ [p]) m >>= fun m'=>pure (.yield (m',[]))) (m:Option Addr) (rest:List (Sem Value × Sem Value)) :
 ∀ (ps run:List (Sem Value × Sem Value)),run.length + ps.length = 17->ps ≠ []->forIn ((ps ++ rest).map fun p=>(some p.1,p.2)) ((m,run):DSt) f = flushD (run ++ ps) m >>= fun m'=>forIn (rest.map fun p=>(some p.1,p.2)) ((m',[]):DSt) f
 | [],run,_,h=>absurd rfl h
 | [p],run,h,_=>by
  rw [List.singleton_append,List.map_cons,List.forIn_cons,hg p m run (by simpa using h)]
  simp only [bind_assoc,pure_bind]
 | p :: q :: ps,run,h,_=>by
  rw [List.cons_append,List.map_cons,List.forIn_cons,hf p m run (by simp at h; lia),pure_bind]
  have:=gather_full f hf hg m rest (q :: ps) (run ++ [p]) (by simp at h ⊢; lia) (by simp)
  simpa using this
theorem display_three (p1 p2 p3:List (Sem Value × Sem Value)) (h1:p1.length = 17) (h2:p2.length = 17) (h3:p3.length < 17) :
 dictDisplay ((p1 ++ (p2 ++ p3)).map fun p=>(some p.1,p.2)) = (do
  let m1 <- flushD p1 none
  let m2 <- flushD p2 m1
  match <- flushD p3 m2 with
  | some d=>pure (.ref d)
  | none=>newDict):=by
 unfold dictDisplay
 dsimp only
 rw [gather_full _ (fun p m run h=>by
  have hne:((run ++ [(p.1,p.2)]).length == 17) = false:=by simp; lia
  simp only [hne,Bool.false_eq_true,if_false]) (fun p m run h=>by
  have hne:((run ++ [(p.1,p.2)]).length == 17) = true:=by simp; lia
  simp only [hne,if_true]
  rfl) none (p2 ++ p3) p1 [] (by simpa using h1) (by intro e; rw [e] at h1; cases h1)]
 rw [bind_assoc]
 refine congrArg _ (funext fun m1=>?_)
 rw [gather_full _ (fun p m run h=>by
  have hne:((run ++ [(p.1,p.2)]).length == 17) = false:=by simp; lia
  simp only [hne,Bool.false_eq_true,if_false]) (fun p m run h=>by
  have hne:((run ++ [(p.1,p.2)]).length == 17) = true:=by simp; lia
  simp only [hne,if_true]
  rfl) m1 p3 p2 [] (by simpa using h2) (by intro e; rw [e] at h2; cases h2)]
 rw [bind_assoc]
 refine congrArg _ (funext fun m2=>?_)
 rw [gather_few _ (fun p m run h=>by
  have hne:((run ++ [(p.1,p.2)]).length == 17) = false:=by simp; lia
  simp only [hne,Bool.false_eq_true,if_false]) m2 p3 [] (by simpa using h3)]
 rw [pure_bind]
 rfl
section
variable {w:World} {A:Around} {E:PR} {s:Shared}
theorem flush_none {ps:List (Sem Value × Sem Value)} {P:List (Str × Int)} (e:EvP w A ps P) (h0:ps ≠ []) (hl:ps.length <= 17) (hn:(P.map (·.1)).Nodup) {Q:Option Addr->Shared->Prop}
 (hQ:∀ h' kvs t,IV kvs P->h'.DictOf (sk w) s.heap.objs.size kvs->(∀ b o,s.heap.get? b = some o->h'.get? b = some o)->s.heap.objs.size < h'.objs.size->s.toks <= t->Q (some s.heap.objs.size) { s with heap:=h',toks:=t }):wpAny (MH w) A (flushD ps none) Q E s:=by
 unfold flushD
 rw [if_neg (by simpa using h0)]
 dsimp only
 refine wpAny_bind (sub_any e hl hn fun h' kvs t iv hd hs ht=>wpAny_pure (hQ h' kvs t iv hd (fun b o eb=>?_) ?_ ht))
 ·exact (hs.2 b (Nat.ne_of_lt (Heap.lt_size eb))).trans (Heap.get?_push_of_some _ eb)
 ·rw [hs.1,Heap.size_push]; exact Nat.lt_succ_self _
theorem flush_some {d:Addr} {acc:List (Str × Value)} {ps:List (Sem Value × Sem Value)} {P:List (Str × Int)} (e:EvP w A ps P) (h0:ps ≠ []) (hl:ps.length <= 17) (hn:(P.map (·.1)).Nodup) (hd:s.heap.DictOf (sk w) d acc) (hne:acc ≠ []) (hacc:acc.length <= 1000)
 (hdis:∀ k ∈ P.map (·.1),k ∉ acc.map (·.1)) (hsm:1 < s.heap.objs.size) {Q:Option Addr->Shared->Prop}
 (hQ:∀ h' kvs t,IV kvs P->h'.DictOf (sk w) d (acc ++ kvs)->(∀ b o,b ≠ d->s.heap.get? b = some o->h'.get? b = some o)->s.heap.objs.size < h'.objs.size->s.toks <= t->Q (some d) { s with heap:=h',toks:=t }):wpAny (MH w) A (flushD ps (some d)) Q E s:=by
 unfold flushD
 rw [if_neg (by simpa using h0)]
 dsimp only
 have hlt:d < s.heap.objs.size:=by obtain ⟨o,_,_,ho,_⟩:=hd; exact Heap.lt_size ho
 have hdn:d ≠ s.heap.objs.size:=Nat.ne_of_lt hlt
 refine wpAny_bind (wpAny_holding (sub_any e hl hn fun h' kvs t iv hd' hs ht=>?_))
 have hd2:h'.DictOf (sk w) d acc:=(hd.push _).sameBut hs hdn
 refine wpAny_bind (wpAny_onRaise (wpAny_mono (Q:=fun _ s'=>wpAny (MH w) A (pure (some d)) Q E s') (E:=fun _ _=>False) (wpAny_holding (merge_into hdn (beq_eq_false_iff_ne.mpr (Nat.ne_of_gt hsm)) hd2 hd' hne (by rw [iv.keys]; exact hdis) ?_ fun h'' hd'' hs''=>?_)) (fun _ _ x=>x) fun _ _ x=>x.elim))
 ·have e1:=iv.len
  have e2:=e.len
  rw [sizeLine_eq]; lia
 ·refine wpAny_pure (hQ h'' kvs t iv hd'' (fun b o hb eb=>?_) ?_ ht)
  ·exact (hs''.2 b hb).trans ((hs.2 b (Nat.ne_of_lt (Heap.lt_size eb))).trans (Heap.get?_push_of_some _ eb))
  ·rw [hs''.1]
   show _ < h'.objs.size
   rw [hs.1,Heap.size_push]; exact Nat.lt_succ_self _
theorem display_dict {p1 p2 p3:List (Sem Value × Sem Value)} {P1 P2 P3:List (Str × Int)} (e1:EvP w A p1 P1) (e2:EvP w A p2 P2) (e3:EvP w A p3 P3) (h1:p1.length = 17) (h2:p2.length = 17) (h3:p3.length < 17) (h30:p3 ≠ [])
 (hn:((P1 ++ P2 ++ P3).map (·.1)).Nodup) (hsm:1 < s.heap.objs.size) {Q:PR}
 (hQ:∀ h' kvs t,IV kvs (P1 ++ P2 ++ P3)->h'.DictOf (sk w) s.heap.objs.size kvs->(∀ b o,s.heap.get? b = some o->h'.get? b = some o)->s.toks <= t->Q (.ref s.heap.objs.size) { s with heap:=h',toks:=t }) :
 wpAny (MH w) A (dictDisplay ((p1 ++ (p2 ++ p3)).map fun p=>(some p.1,p.2))) Q E s:=by
 rw [display_three p1 p2 p3 h1 h2 h3]
 have l1:=e1.len
 have l2:=e2.len
 rw [List.map_append,List.map_append,List.nodup_append,List.nodup_append] at hn
 obtain ⟨⟨n1,n2,n3⟩,n4,n5⟩:=hn
 refine wpAny_bind (flush_none e1 (by intro q; rw [q] at h1; cases h1) (by lia) n1 fun ha ka ta iva da oa sa xa=>?_)
 have la:=iva.len
 refine wpAny_bind (flush_some e2 (by intro q; rw [q] at h2; cases h2) (by lia) n2 da (by intro q; rw [q] at la; simp at la; lia) (by lia) (fun k hk hm=>?_) (Nat.lt_trans hsm sa) fun hb kb tb ivb db ob sb xb=>?_)
 ·rw [iva.keys] at hm
  exact n3 k hm k hk rfl
 have lb:=ivb.len
 refine wpAny_bind (flush_some e3 h30 (by lia) n4 db (by intro q; rw [(List.append_eq_nil_iff.mp q).1] at la; simp at la; lia) (by rw [List.length_append]; lia) (fun k hk hm=>?_) (Nat.lt_trans (Nat.lt_trans hsm sa) sb) fun hc kc tc ivc dc oc sc xc=>?_)
 ·rw [(iva.append ivb).keys,List.map_append] at hm
  exact n5 k hm k hk rfl
 refine wpAny_pure (hQ hc _ tc ((iva.append ivb).append ivc) dc (fun b o eb=>?_) ?_)
 ·have hb':b ≠ s.heap.objs.size:=Nat.ne_of_lt (Heap.lt_size eb)
  exact oc b o hb' (ob b o hb' (oa b o eb))
 ·have q1:ta <= tb:=xb
  have q2:tb <= tc:=xc
  lia
end
noncomputable def pairsK:List (T × Int)->List (Option EX)->List EX->Bool
 | [],ks,vs=>ks.isEmpty && vs.isEmpty
 | p :: l,ks,vs=>opt (vCons ks) fun k=>opt (vCons vs) fun v=>opt k.1 (fun e=>opt (vConst e) (conOk (.str p.1))) && opt (vConst v.1) (conOk (.int p.2)) && pairsK l k.2 v.2
noncomputable abbrev txs (l:List (T × Int)):List (Str × Int):=l.map fun x=>(tx x.1,x.2)
theorem pair_ok {k:Option EX} {v:EX} {p:T × Int} {G:Prop} (h1:opt k (fun e=>opt (vConst e) (conOk (.str p.1))) = true) (h2:opt (vConst v) (conOk (.int p.2)) = true)
 (g:∀ a b a2 b2,k = some (.Constant (.str (tx p.1)) a b)->conOk (.str p.1) (.str (tx p.1)) = true->v = .Constant (.int p.2) a2 b2->G):G:=by
 obtain ⟨ek,he,h1⟩:=opt_inv h1
 obtain ⟨ck,hck,h1⟩:=opt_inv h1
 obtain ⟨cv,hcv,h2⟩:=opt_inv h2
 refine vConst_ok hck fun a b hek=>vConst_ok hcv fun a2 b2 hev=>?_
 cases ck with
 | str s =>
  cases cv with
  | int n =>
   have hs:s = tx p.1:=Str.ext' (by rw [<- of_decide_eq_true (and_inv h1).1])
   rw [hs] at h1 hek
   rw [show n = p.2 from (beq_iff_eq.mp h2).symm] at hev
   exact g a b a2 b2 (he.trans (congrArg some hek)) h1 hev
  | _=>exact absurd h2 fT
 | _=>exact absurd h1 fT
theorem evP_of {w:World} {A:Around} {pos:Pos} {env:Env} {l:List (T × Int)}:∀ {ks:List (Option EX)} {vs:List EX},pairsK l ks vs = true->EvP w A (dpairs pos env ks vs) (txs l) /\ ks.length = vs.length /\ keysOk (l.map (·.1)) ks = true:=by
 induction l with
 | nil =>
  intro ks vs h
  cases nil_ok (and_inv h).1; cases nil_ok (and_inv h).2
  exact ⟨.nil,rfl,rfl⟩
 | cons p l ih =>
  intro ks vs h
  obtain ⟨⟨k,ks'⟩,hk,h⟩:=opt_inv h
  obtain ⟨⟨v,vs'⟩,hv,h⟩:=opt_inv h
  obtain ⟨hA,h3⟩:=and_inv h
  obtain ⟨g1,g2,g3⟩:=ih h3
  clear h
  cases vCons_ok hk; cases vCons_ok hv
  refine pair_ok (and_inv hA).1 (and_inv hA).2 fun a b a2 b2 hk hcon hv=>?_
  cases hk; cases hv
  exact ⟨.cons (fun E s Q h=>wpAny_Constant_str h) (fun E s Q h=>wpAny_bind (wpAny_Constant_int (wpAny_bind (wpAny_standAt (wpAny_pure h))))) g1,congrArg (· + 1) g2,(Bool.and_eq_true _ _).mpr ⟨hcon,g3⟩⟩
theorem EvP.take {w:World} {A:Around} {ps:List (Sem Value × Sem Value)} {P:List (Str × Int)} (h:EvP w A ps P) (n:Nat):EvP w A (ps.take n) (P.take n):=by
 induction h generalizing n with
 | nil=>rw [List.take_nil,List.take_nil]; exact .nil
 | cons a b r ih=>cases n with
  | zero=>exact .nil
  | succ n=>exact .cons a b (ih n)
theorem EvP.drop {w:World} {A:Around} {ps:List (Sem Value × Sem Value)} {P:List (Str × Int)} (h:EvP w A ps P) (n:Nat):EvP w A (ps.drop n) (P.drop n):=by
 induction h generalizing n with
 | nil=>rw [List.drop_nil,List.drop_nil]; exact .nil
 | cons a b r ih=>cases n with
  | zero=>exact .cons a b r
  | succ n=>exact ih n
theorem iv_zip {kvs:List (Str × Value)} {P:List (Str × Int)} (h:IV kvs P):kvs = (P.map (·.1)).zip (kvs.map (·.2)):=by
 induction h with
 | nil=>rfl
 | cons x i t r ih=>exact congrArg ((x,Value.int i t) :: ·) ih
theorem iv_vrs {c:Cx} {h:Heap} {kvs:List (Str × Value)} {P:List (Str × Int)} (r:IV kvs P):VRs c h (P.map fun p=>.int p.2) (kvs.map (·.2)):=by
 induction r with
 | nil=>exact .nil
 | cons x i t r ih=>exact .cons (.int i t) ih
noncomputable def retE (e:EX) (rp:Pos):List (Option EX) × List EX × Pos × Pos:=by
 cases e with
 | Dict ks vs p=>exact (ks,vs,p,rp)
 | _=>exact ([],[],rp,rp)
noncomputable def retS (l:List Stmt):List (Option EX) × List EX × Pos × Pos:=(((v1 l).bind fun s=>(sRet s).bind fun o=>o.map fun e=>retE e s.pos)).getD ([],[],⟨0,0,0,0⟩,⟨0,0,0,0⟩)
structure DictFn (H:Heap) (f:Addr) (l:List (T × Int)):Prop where
 obj:∃ o fd body sc q cd ks vs p rp,H.get? f = some o /\ o.data = .func fd /\ fd.body = .stmts body /\ body = [.Return (some (.Dict ks vs p)) rp] /\ pairsK l ks vs = true /\
  fd.scope = sc /\ sc.isCoroutine = false /\ sc.isGenerator = false /\ sc.kind = .function /\ (∀ x ∈ sc.names,x.2 ≠ .cell) /\ fd.code = cd /\ fd.qualname = q /\ H.CodeRec cd q /\ bindArgs fd ⟨[],[]⟩ = pure []
 many:34 < l.length /\ l.length < 51
 nodup:(l.map (·.1)).Nodup
section
variable {w:World} {S:Sets} {c:Cx}
theorem dict_callee (e:Env0 w S c) {f:Addr} {l:List (T × Int)} (D:DictFn c.H0 f l) (k:Nat):Callee c (k + 1) f fun vs s P=>Must vs.isEmpty (P (.dict (l.map (·.1)) (l.map fun p=>.int p.2)) s):=by
 obtain ⟨o,fd,body,sc,q,cd,ks,es,p,rp,ho,hd,hb,rfl,hp,hsc,g1,g2,g3,g4,hcd,hq,hcr,hbind⟩:=D.obj
 refine ⟨⟨o,fd,ho,hd⟩,fun envs A s sf vs args P Q E St hroom rv hrun h=>?_⟩
 have hvs:vs = []:=nil_ok hrun.t
 subst hvs
 have hargs:args = []:=List.length_eq_zero_iff.mp rv.len
 subst hargs
 let c₀:Cx:={ c with envs:=envs }
 refine wpAny_call (codeAny_call_def (binds:=[]) (by show A.depth < 1000; lia) (St.base _ _ ho) hd ((noLimit e.X).keeps St.base) (by rw [hcd,hq]; exact hcr.keeps St.base) hb (BindsTo.of_eq hbind) (by rw [hsc]; exact g4)
  (fun x hx=>by cases hx) (fun h₀ hns hk=>?_) (by rw [hsc]; exact g1) (by rw [hsc]; exact g2) (by rw [hsc]; exact g3))
 generalize callEnv fd s.heap.objs.size f = env at *
 obtain ⟨ev,hlen,hts⟩:=evP_of (w:=c.w) (A:=A.deeper env) (pos:=p) (env:=env) hp
 have hnod:((l.map fun x=>(tx x.1,x.2)).map (·.1)).Nodup:=by
  rw [List.map_map]
  have:=List.Pairwise.map (R:=fun a b=>a ≠ b) (S:=fun a b=>a ≠ b) (f:=tx) (fun a b hab he=>hab (tx_inj he)) D.nodup
  rw [List.map_map] at this
  exact this
 refine wpAny_execs_cons (wpAny_Return_some ?_)
 rw [arm_eval_Dict,dshape hts hlen]
 refine wpAny_bind (wpAny_standAt ?_)
 have le:=ev.len
 rw [List.length_map] at le
 obtain ⟨m1,m2⟩:=D.many
 have cut:dpairs p env ks es = (dpairs p env ks es).take 17 ++ (((dpairs p env ks es).drop 17).take 17 ++ ((dpairs p env ks es).drop 17).drop 17):=by rw [List.take_append_drop,List.take_append_drop]
 rw [cut]
 have hlt:1 < s.heap.objs.size:=by
  have:=Heap.lt_size (St.base _ _ ho)
  rcases Nat.lt_or_ge 1 s.heap.objs.size with z | z
  ·exact z
  ·exfalso
   exact absurd (Heap.lt_size (St.base _ _ (e.X.K 1 (boot_o_1 w.params) (by kernel_rfl)))) (Nat.not_lt.mpr z)
 have hk':s.heap.objs.size <= h₀.objs.size:=by
  obtain ⟨o',es',ep',ho',_⟩:=hns
  exact Nat.le_of_lt (Heap.lt_size ho')
 refine display_dict (s:={ s with heap:=h₀,toks:=s.toks + ([]:List (Str × Value)).length }) (ev.take 17) ((ev.drop 17).take 17) ((ev.drop 17).drop 17) (by rw [List.length_take]; lia) (by rw [List.length_take,List.length_drop]; lia)
  (by rw [List.length_drop,List.length_drop]; lia) (by intro z; have:=congrArg List.length z; rw [List.length_drop,List.length_drop,List.length_nil] at this; lia) ?_ (Nat.lt_of_lt_of_le hlt hk') fun h' kvs t iv hdo hold ht=>?_
 ·rw [List.append_assoc,List.take_append_drop,List.take_append_drop]; exact hnod
 rw [List.append_assoc,List.take_append_drop,List.take_append_drop] at iv
 have hold2:∀ b u,s.heap.get? b = some u->h'.get? b = some u:=fun b u eb=>hold b u (hk b u eb)
 have st:Step c₀.fs [] s.heap h':=Step.ofKeeps hold2
 have hpos:c₀.pos = true->0 < t:=fun z=>Nat.lt_of_lt_of_le (St.tk z) ht
 have fresh:¬ c₀.mut h₀.objs.size:=fun m=>by
  obtain ⟨_,u,_,_,hu,_⟩:=St.mut_none m
  exact absurd (Heap.lt_size hu) (Nat.not_lt.mpr hk')
 refine h _ _ _ _ hrun.p (St.keep st hpos) (st.wide fun _ z=>nomatch z) (.dict (vals:=kvs.map (·.2)) fresh ⟨?_,?_⟩ ⟨⟨?_,keys_lim hts⟩,?_⟩ ?_)
 ·have hz:=iv_zip iv
  have:(l.map fun x=>(tx x.1,x.2)).map (·.1) = (l.map (·.1)).map tx:=by rw [List.map_map,List.map_map]; rfl
  rw [this] at hz
  rw [<- hz]
  exact hdo
 ·rw [List.length_map,iv.len,List.length_map,List.length_map]
 ·rw [List.length_map]; exact Nat.le_trans (Nat.le_of_lt m2) (by decide)
 ·refine e.lists _ ?_
  cases q':c.H0.get? h₀.objs.size with
  | none=>rfl
  | some u =>
   have:=Heap.lt_size (hk _ _ (St.base _ _ q'))
   exact absurd this (Nat.lt_irrefl _)
 ·have:=iv_vrs (c:=c₀) (h:=h') iv
  rw [List.map_map] at this
  exact this
theorem nouns_nodup:decide ((nounsL.map (·.1)).Nodup) && decide ((verbsL.map (·.1)).Nodup) = true:=by kernel_rfl
theorem nouns_body:(bdS (fnStmt (clsOf 3) "_law_nouns") = [.Return (some (.Dict (retS (bdS (fnStmt (clsOf 3) "_law_nouns"))).1 (retS (bdS (fnStmt (clsOf 3) "_law_nouns"))).2.1 (retS (bdS (fnStmt (clsOf 3) "_law_nouns"))).2.2.1)) (retS (bdS (fnStmt (clsOf 3) "_law_nouns"))).2.2.2]) /\ pairsK nounsL (retS (bdS (fnStmt (clsOf 3) "_law_nouns"))).1 (retS (bdS (fnStmt (clsOf 3) "_law_nouns"))).2.1 = true:=⟨by kernel_rfl,by kernel_rfl⟩
theorem verbs_body:(bdS (fnStmt (clsOf 3) "_law_verbs") = [.Return (some (.Dict (retS (bdS (fnStmt (clsOf 3) "_law_verbs"))).1 (retS (bdS (fnStmt (clsOf 3) "_law_verbs"))).2.1 (retS (bdS (fnStmt (clsOf 3) "_law_verbs"))).2.2.1)) (retS (bdS (fnStmt (clsOf 3) "_law_verbs"))).2.2.2]) /\ pairsK verbsL (retS (bdS (fnStmt (clsOf 3) "_law_verbs"))).1 (retS (bdS (fnStmt (clsOf 3) "_law_verbs"))).2.1 = true:=⟨by kernel_rfl,by kernel_rfl⟩
noncomputable def scOk (sc:Scope):Bool:=!sc.isCoroutine && (!sc.isGenerator && (decide (sc.kind = .function) && sc.names.all fun x=>decide (x.2 ≠ .cell)))
theorem dictFn_of {w:World} {H:Heap} (X:Top w H) {f:Addr} {n:Str} {st:Stmt} {l:List (T × Int)} {r:List (Option EX) × List EX × Pos × Pos} (hk:(KL w).lookup f = some (fnObj n (mdOf 3) (f - 1) st)) (hfd:isFd st = true) (hsc:scOk (scS st) = true)
 (hb:bdS st = [.Return (some (.Dict r.1 r.2.1 r.2.2.1)) r.2.2.2]) (hp:pairsK l r.1 r.2.1 = true) (hq:fnAddrs.contains (f,n) = true) (hbind:bindArgs (fdS n (mdOf 3) (f - 1) st) ⟨[],[]⟩ = pure [])
 (many:34 < l.length /\ l.length < 51) (nodup:(l.map (·.1)).Nodup):DictFn H f l:=by
 obtain ⟨c1,h⟩:=and_inv hsc
 obtain ⟨c2,h⟩:=and_inv h
 obtain ⟨c3,c4⟩:=and_inv h
 obtain ⟨z1,z2,z3,z4,z5,z6,z7,z8⟩:=fd_data (q:=n) (md:=mdOf 3) (cd:=f - 1) hfd
 exact ⟨⟨_,fdS n (mdOf 3) (f - 1) st,_,scS st,n,.ref (f - 1),_,_,_,_,X.K _ _ hk,z1,z2,hb,hp,z3,not_inv c1,not_inv c2,of_decide_eq_true c3,fun x hx=>of_decide_eq_true (List.all_eq_true.mp c4 x hx),z8,z7,X.code f n (List.contains_iff_mem.mp hq),hbind⟩,many,nodup⟩
theorem dicts (e:Env0 w S c):Dicts c:=by
 obtain ⟨n1,n2⟩:=and_inv nouns_nodup
 refine ⟨fun k=>?_,fun k=>?_⟩
 ·exact dict_callee e (dictFn_of e.X (n:="_law_nouns") (ff_lookup w .nouns) (by kernel_rfl) (by kernel_rfl) nouns_body.1 nouns_body.2 (by kernel_rfl) (by kernel_rfl) (by decide) (of_decide_eq_true n1)) k
 ·exact dict_callee e (dictFn_of e.X (n:="_law_verbs") (ff_lookup w .verbs) (by kernel_rfl) (by kernel_rfl) verbs_body.1 verbs_body.2 (by kernel_rfl) (by kernel_rfl) (by decide) (of_decide_eq_true n2)) k
end
section
variable {c:Cx} {K:Frag} {A:Around} {FC AC:Addr} {s:Shared} {E:PR} {env:Env}
theorem p_meth {w:World} {o:EX} {n:Str} {ap pos:Pos} {xs:List EX} {f:Addr} {Q:PR} (O:KOk K FC AC) (hf:findIn K (.ref FC) n = some (some (.ref f))) (ht:typeIn K (.ref f) = some (.type "function"))
 (hform:methodCallForm (xs.length + 0) (backTo pos (starEach xs env)) (backToKw pos (keywordEach [] env)) = true) (hline:(ap.endLine == pos.line) = true) (hb:attributeBase o n env (eval o env) = eval o env)
 (h:wpAny (model PG w) A (eval o env) (fun ov s₁=>∃ x d mA,ov = .ref x /\ K.In s₁.heap /\ s₁.heap.get? x = some (instObj FC d) /\ s₁.heap.Ns d mA /\ mA n = none /\ wpAny (model PG w) A (callWith pos (.ref f) [.ref x] (backTo pos (starEach xs env)) []) Q E s₁) E s) :
 wpAny (model PG w) A (eval (.Call (.Attribute o n ap) xs [] pos) env) Q E s:=by
 rw [arm_eval_Call,hb]
 refine wpAny_bind (wpAny_mono h (fun ov s₁ h=>?_) fun _ _ z=>z)
 obtain ⟨x,d,mA,rfl,X,h6,hn,h0,h⟩:=h
 obtain ⟨od,ho,hl⟩:=lookIn_ns hn
 have I:InstAt s₁.heap x (instObj FC d) FC (some od):=⟨h6,rfl,rfl,ho⟩
 have hpos:methodCallPos true o env ap pos = pure pos:=by unfold methodCallPos; simp [hline]
 refine wpAny_bind (wpAny_standAt ?_)
 unfold methodCall
 rw [show methodCallForm (xs.length + ([]:List Keyword).length) _ _ = true from hform]
 refine wpAny_bind (wpAny_holding (method_fn X I O.ga O.gt hf ht (by show (lookIn n od).map _ = _; rw [hl,h0]; rfl) ?_))
 exact wpAny_bind (wpAny_of_eq hpos h)
noncomputable abbrev fr0:Stem:=⟨[],0,0,0,0,0,none,none,none⟩
noncomputable def fx (f:Fld):Nat:=match f with
 | .cur=>0
 | .csr=>1
 | .lim=>2
 | .lb=>3
 | .bra=>4
 | .ket=>5
 | _=>6
noncomputable def part (k:Nat) (f:Fld):Option V:=match Nat.ble (fx f + 1) k with
 | true=>gt fr0 f
 | false=>none
structure Raw (FC:Addr) (s0:Shared) (x d L:Addr) (m:SV) (k:Nat) (s:Shared):Prop where
 keep:∀ b o,s0.heap.get? b = some o->s.heap.get? b = some o
 at_:s.heap.get? x = some (instObj FC d)
 ns:∃ mA,s.heap.Ns1 d mA /\ (∀ f v,part k f = some v->∃ x,mA (fname f) = some x /\ FV v x) /\ ∀ n,(∀ f,n ≠ fname f)->mA n = none
 fr:s.heap.Ns L m
 xd:x ≠ d
 Ld:L ≠ d
 d0:s0.heap.get? d = none
 gens:s.gens = s0.gens
 os:s.os = s0.os
 dr:s.drawn = s0.drawn
section
variable {w:World} {s0:Shared} {x d:Addr} {m:SV} {k:Nat}
theorem Raw.tok {L:Addr} (r:Raw FC s0 x d L m k s) (t:Nat):Raw FC s0 x d L m k { s with toks:=t }:=⟨r.keep,r.at_,r.ns,r.fr,r.xd,r.Ld,r.d0,r.gens,r.os,r.dr⟩
structure Lay (c:Cx) (K:Frag) (env:Env) (s0:Shared) (x d:Addr) (m:SV):Prop where
 O:KOk K c.FC c.AC
 X:K.In s0.heap
 hk:env.scope.kind = .function
 hl:env.scope.names.lookup ("self":Str) = some .local
 hm:m "self" = some (.ref x)
theorem raw_self {p:Pos} {Q:PR} (Y:Lay c K env s0 x d m) (r:Raw c.FC s0 x d env.locals m k s) (h:Q (.ref x) s):wpAny (MD c) A (eval (.Name "self" p) env) Q E s :=
 wpAny_Name (wpAny_loadName_local Y.hk Y.hl r.fr Y.hm h) (by decide)
theorem raw_get {f:Fld} {p p2:Pos} {v:V} {Q:PR} (Y:Lay c K env s0 x d m) (r:Raw c.FC s0 x d env.locals m k s) (e:part k f = some v) (h:∀ y s',FV v y->Raw c.FC s0 x d env.locals m k s'->Q y s') :
 wpAny (MD c) A (eval (.Attribute (.Name "self" p) (fname f) p2) env) Q E s:=by
 obtain ⟨mA,hn,hF,_⟩:=r.ns
 obtain ⟨y,e,q⟩:=hF f v e
 exact attr_of (raw_self Y r (get_raw Y.O (Y.X.keeps r.keep) r.at_ hn e (by cases q <;> rfl) (h _ _ q (r.tok _))))
theorem part_ne {f g:Fld} (hk:fx f = k) (h:g ≠ f) (hf:k < 6):part (k + 1) g = part k g:=by
 subst hk
 cases f <;> first | exact absurd hf (by decide) | (cases g <;> first | rfl | exact absurd rfl h)
theorem raw_set {f:Fld} {e:EX} {p p2 pos:Pos} {v:V} {Q:FS} (Y:Lay c K env s0 x d m) (hk:fx f = k) (hf:k < 6) (hv:part (k + 1) f = some v) (ht:tame e = true)
 (h:wpAny (MD c) A (eval e env) (fun y s₁=>FV v y /\ Raw c.FC s0 x d env.locals m k s₁ /\ ∀ s₂,Raw c.FC s0 x d env.locals m (k + 1) s₂->Q .next s₂) E s):wpAny (MD c) A (exec (.Assign [.Attribute (.Name "self" p) (fname f) p2] e pos) env) Q E s:=by
 rw [arm_exec_Assign]
 refine wpAny_bind (wpAny_standAt ?_)
 rw [hsw1,swaps_no ht]
 refine wpAny_bind (wpAny_pure ?_)
 rw [if_neg fT]
 refine wpAny_bind (wpAny_mono h (fun y s₁ h=>?_) fun _ _ z=>z)
 obtain ⟨q,r,h⟩:=h
 rw [hst1]
 refine wpAny_bind (wpAny_pure ?_)
 show wpAny (MD c) A (do assign (.Attribute (.Name "self" p) (fname f) p2) env y; pure .next) Q E s₁
 rw [arm_assign_Attribute]
 obtain ⟨mA,hn,hF,ho⟩:=r.ns
 have hw:Within (fun n=>if n = fname f then some y else mA n) allFields:=fun n hn=>by
  by_cases e:n = fname f
  ·rw [e]; exact fld_mem f
  ·exact Classical.byContradiction fun z=>hn ((if_neg e).trans (ho n fun g e=>z (by rw [e]; exact fld_mem g)))
 refine wpAny_bind (wpAny_bind (wpAny_holding (raw_self Y r ?_)))
 refine wpAny_bind (wpAny_standAt (wpAny_bind (wpAny_holding (set_raw Y.O (Y.X.keeps r.keep) r.at_ hn hw fun h' t n' k=>?_))))
 refine wpAny_release' (wpAny_pure (h _ ⟨fun b o e=>(k.2 b fun z=>?_).trans (r.keep b o e),(k.2 _ r.xd).trans r.at_,⟨_,n',fun g u hu=>?_,fun n hn=>?_⟩,r.fr.sameBut k r.Ld,r.xd,r.Ld,r.d0,r.gens,r.os,r.dr⟩))
 ·rw [z,r.d0] at e; cases e
 ·by_cases z:g = f
  ·rw [z] at hu ⊢
   rw [hv] at hu; cases hu
   exact ⟨y,if_pos rfl,q⟩
  ·rw [part_ne hk z hf] at hu
   obtain ⟨y',e1,e2⟩:=hF g u hu
   exact ⟨y',(if_neg fun q=>z (fname_inj q)).trans e1,e2⟩
 ·exact (if_neg (hn f)).trans (ho n hn)
noncomputable def setB:List Stmt:=[
 .Assign [.Attribute (.Name "self" ⟨11,8,11,12⟩) "current" ⟨11,8,11,20⟩] (.Name "value" ⟨11,23,11,28⟩) ⟨11,8,11,28⟩,
 .Assign [.Attribute (.Name "self" ⟨12,8,12,12⟩) "cursor" ⟨12,8,12,19⟩] (.Constant (.int 0) 0 ⟨12,22,12,23⟩) ⟨12,8,12,23⟩,
 .Assign [.Attribute (.Name "self" ⟨13,8,13,12⟩) "limit" ⟨13,8,13,18⟩] (.Call (.Name "len" ⟨13,21,13,24⟩) [.Attribute (.Name "self" ⟨13,25,13,29⟩) "current" ⟨13,25,13,37⟩] [] ⟨13,21,13,38⟩) ⟨13,8,13,38⟩,
 .Assign [.Attribute (.Name "self" ⟨14,8,14,12⟩) "limit_backward" ⟨14,8,14,27⟩] (.Constant (.int 0) 0 ⟨14,30,14,31⟩) ⟨14,8,14,31⟩,
 .Assign [.Attribute (.Name "self" ⟨15,8,15,12⟩) "bra" ⟨15,8,15,16⟩] (.Attribute (.Name "self" ⟨15,19,15,23⟩) "cursor" ⟨15,19,15,30⟩) ⟨15,8,15,30⟩,
 .Assign [.Attribute (.Name "self" ⟨16,8,16,12⟩) "ket" ⟨16,8,16,16⟩] (.Attribute (.Name "self" ⟨16,19,16,23⟩) "limit" ⟨16,19,16,29⟩) ⟨16,8,16,29⟩]
theorem set_body:bdS (mSt .set_current) = setB:=by kernel_rfl
theorem set_nm:nmS (mSt .set_current) = (["self","value"]:List Str):=by kernel_rfl
theorem set_walk {u:Tok} {Q:FS} (Y:Lay c K env s0 x d m) (hv:env.scope.names.lookup ("value":Str) = some .local) (hm:m "value" = some (.str (tx []) u)) (hg:glob env.scope "len" = true) (g1:env.globals = mainGlobals) (g2:env.builtins = builtinsNs) (r0:Raw c.FC s0 x d env.locals m 0 s)
 (h:∀ s',Raw c.FC s0 x d env.locals m 6 s'->Q .next s'):wpAny (MD c) A (execs setB env) Q E s:=by
 refine wpAny_execs_cons (raw_set (f:=.cur) (v:=.str []) Y rfl (by decide) rfl rfl (wpAny_Name (wpAny_loadName_local Y.hk hv r0.fr hm ⟨.str [] u (Nat.zero_le _),r0,fun s1 r1=>?_⟩) (by decide)))
 refine wpAny_execs_cons (raw_set (f:=.csr) (v:=.int 0) Y rfl (by decide) rfl rfl (wpAny_Constant_int ⟨.int _ _,r1.tok _,fun s2 r2=>?_⟩))
 refine wpAny_execs_cons (raw_set (f:=.lim) (v:=.int 0) Y rfl (by decide) rfl rfl (wpAny_Call_NameR (p_builtin (Y.X.keeps r2.keep) Y.hk hg Y.O.len.1 Y.O.len.2 ?_ g1 g2)))
 refine callWith_machine rfl rfl (evalArgs_plain (spliced_cons (raw_get (f:=.cur) Y r2 rfl fun y s2 q r2=>spliced_nil ?_)))
 obtain ⟨u,rfl⟩:∃ u,y = .str (tx []) u:=by cases q; exact ⟨_,rfl⟩
 show wpAny (MD c) _ (call (.builtin "len") [.str (tx []) u]) _ _ _
 refine len_str (by rw [tx_len]; decide) ?_
 rw [tx_len]
 refine ⟨.int 0 _,r2.tok _,fun s3 r3=>?_⟩
 refine wpAny_execs_cons (raw_set (f:=.lb) (v:=.int 0) Y rfl (by decide) rfl rfl (wpAny_Constant_int ⟨.int _ _,r3.tok _,fun s4 r4=>?_⟩))
 refine wpAny_execs_cons (raw_set (f:=.bra) (v:=.int 0) Y rfl (by decide) rfl rfl (raw_get (f:=.csr) Y r4 rfl fun y s4 q r4=>⟨q,r4,fun s5 r5=>?_⟩))
 refine wpAny_execs_cons (raw_set (f:=.ket) (v:=.int 0) Y rfl (by decide) rfl rfl (raw_get (f:=.lim) Y r5 rfl fun y s5 q r5=>⟨q,r5,fun s6 r6=>?_⟩))
 exact wpAny_execs_nil (h _ r6)
theorem set_fresh {S:Sets} (e:Env0 w S c) {s0:Shared} {t:Tok} {R:Result->Shared->Prop} (hd:A.depth < 1000) (hb:c.H0.StaysIn s0.heap) (L:Addr) (r:Raw c.FC s0 x d L m 0 s)
 (h:∀ L m s',Raw c.FC s0 x d L m 6 s'->R (.ok (.ret .none)) s'):codeAny (MD c) A (.call (.ref 42) ⟨[.ref x,.str (tx []) t],[]⟩) R s:=by
 refine enter (fm e.X .set_current) hd (fun b o z=>r.keep b o (hb b o z)) (noLimit e.X) (by rw [set_nm]; rfl) fun h₀ hns hk=>?_
 rw [set_body]
 rw [set_nm] at hns
 obtain ⟨mA,n1,n2⟩:=r.ns
 have Ld:s.heap.objs.size ≠ d:=fun z=>by
  obtain ⟨o,_,_,ho,_⟩:=n1
  exact absurd (Heap.lt_size ho) (by rw [z]; exact Nat.lt_irrefl _)
 exact set_walk (K:=KS w S) ⟨by rw [e.FC,e.AC]; exact kOk w S,(KS_in e.X e.Z).keeps hb,by kernel_rfl,by kernel_rfl,rfl⟩ (by kernel_rfl) rfl (by kernel_rfl) rfl rfl ⟨fun b o z=>hk b o (r.keep b o z),hk _ _ r.at_,⟨mA,ns1_up n1 fun o z=>⟨o.slots,hk _ _ z⟩,n2⟩,hns,r.xd,Ld,r.d0,r.gens,r.os,r.dr⟩
  fun s' r=>h _ _ s' r
noncomputable def initS:Stmt:=fnStmt "BaseStemmer" "__init__"
theorem init_at {H:Heap} (X:Top w H):FnAt H 35 (scS initS) (bdS initS) ir_init (nmS initS) "BaseStemmer.__init__" (.ref 34) :=
 fnAt_of X (md:=mdOf 0) (by kernel_rfl) (by kernel_rfl) (by kernel_rfl) (by kernel_rfl) (bindS (a:="self") (r:=[]) (by kernel_rfl) fun x=>bind_nil (by kernel_rfl))
theorem init_body:bdS initS = [.Expr (.Call (.Attribute (.Name "self" ⟨8,8,8,12⟩) "set_current" ⟨8,8,8,24⟩) [.Constant (.str "") 0 ⟨8,25,8,27⟩] [] ⟨8,8,8,28⟩) ⟨8,8,8,28⟩]:=by kernel_rfl
theorem init_nm:nmS initS = (["self"]:List Str):=by kernel_rfl
theorem init_fresh {S:Sets} (e:Env0 w S c) {s0:Shared} {R:Result->Shared->Prop} (hd:A.depth < 999) (hb:c.H0.StaysIn s0.heap) (hk:∀ b o,s0.heap.get? b = some o->s.heap.get? b = some o) (hx:s.heap.get? x = some (instObj c.FC d))
 (hn:s.heap.Ns1 d fun _=>none) (xd:x ≠ d) (d0:s0.heap.get? d = none) (hg:s.gens = s0.gens) (ho:s.os = s0.os) (hr:s.drawn = s0.drawn)
 (h:∀ L m s',Raw c.FC s0 x d L m 6 s'->R (.ok (.ret .none)) s'):codeAny (MD c) A (.call (.ref 35) ⟨[.ref x],[]⟩) R s:=by
 have X0:=(KS_in e.X e.Z).keeps hb
 have O:KOk (KS w S) c.FC c.AC:=by rw [e.FC,e.AC]; exact kOk w S
 refine enter (init_at e.X) (by lia) (fun b o z=>hk b o (hb b o z)) (noLimit e.X) (by rw [init_nm]; rfl) fun h₀ hns kk=>?_
 rw [init_body]
 have Y:Lay c (KS w S) (envK "BaseStemmer.__init__" (scS initS) s.heap.objs.size 35 (.ref 34) []) s0 x d (fun y=>((nmS initS).zip [Value.ref x]).reverse.lookup y) :=
  ⟨O,X0,by kernel_rfl,by kernel_rfl,by rw [init_nm]; rfl⟩
 have Ld:s.heap.objs.size ≠ d:=fun z=>by
  obtain ⟨o,_,_,ho,_⟩:=hn
  exact absurd (Heap.lt_size ho) (by rw [z]; exact Nat.lt_irrefl _)
 have r0:Raw c.FC s0 x d s.heap.objs.size (fun y=>((nmS initS).zip [Value.ref x]).reverse.lookup y) 0 { s with heap:=h₀,toks:=s.toks + ((nmS initS).zip [Value.ref x]).length } :=
  ⟨fun b o z=>kk b o (hk b o z),kk _ _ hx,⟨_,ns1_up hn fun o z=>⟨o.slots,kk _ _ z⟩,fun f v z=>(nomatch z),fun _ _=>rfl⟩,hns,xd,Ld,d0,hg,ho,hr⟩
 refine wpAny_execs_cons (wpAny_Expr (p_meth (f:=42) O (by rw [e.FC]; kernel_rfl) (by kernel_rfl) rfl rfl rfl (raw_self Y r0 ?_)) (by kernel_rfl) (swaps_no rfl))
 obtain ⟨mA,n1,n2,n3⟩:=r0.ns
 refine ⟨_,_,_,rfl,X0.keeps r0.keep,r0.at_,n1.ns,n3 _ fun f=>?_,callWith_K X0 (by kernel_rfl) (spliced_cons (x:=eval (.Constant (.str "") 0 ⟨8,25,8,27⟩) _) (wpAny_Constant_str (spliced_nil ⟨X0.keeps r0.keep,wpAny_call (set_fresh e (by show A.depth + 1 < 1000; lia) hb _ (r0.tok _) fun L m s' r=>?_)⟩)))⟩
 ·exact fun z=>mnm_fld .set_current f z
 ·exact wpAny_execs_nil (h _ _ _ r)
noncomputable def Cx.wi (c:Cx) (p:Option (Addr × Addr)):Cx:={ c with slf:=p }
noncomputable def Fx.wi (F:Fx) (p:Option (Addr × Addr)):Fx:={ F with c:=F.c.wi p }
theorem make_stemmer {S:Sets} {sf:Stem} {Q:PR} (e:Env0 w S c) (S0:Sit c A s sf) (hp:c.pos = false) (hroom:A.depth <= 900)
 (h:∀ x d s',s.heap.get? x = none->s.heap.get? d = none->Sit (c.wi (some (x,d))) A s' fr0->Step c.fs [] s.heap s'.heap->Q (.ref x) s'):wpAny (MD c) A (call (.ref 806) []) Q E s:=by
 have X0:=(KS_in e.X e.Z).keeps S0.base
 have hF:=e.FC
 refine wpAny_call ?_
 obtain ⟨hh,g,dr,t,os⟩:=s
 have n0:∀ {b:Addr} {o:Obj},hh.get? b = some o->b ≠ hh.objs.size:=fun z=>Nat.ne_of_lt (Heap.lt_size z)
 have gone:∀ n,hh.get? (hh.objs.size + n) = none:=fun n=>Heap.get?_none_of_le (Nat.le_add_right _ _)
 have kk:∀ b o,hh.get? b = some o->((hh.push emptyDict).push (instObj 806 hh.objs.size)).get? b = some o:=fun b o z=>Heap.get?_push_of_some _ (Heap.get?_push_of_some _ z)
 refine make_core (makes_of X0 (by kernel_rfl)) (looks_findIn (t:=.ref 806) (name:="__init__") (r:=some (.ref 35)) X0 (by kernel_rfl)) (fun self=>bind_fn X0 self (by kernel_rfl)) (.inl rfl) ?_
 refine init_fresh (s0:=⟨hh,g,dr,t,os⟩) e (by rw [depth_under_make]; lia) S0.base kk (by rw [hF]; heap_get) ?_ (Nat.succ_ne_self _) (gone 0) rfl rfl rfl fun L m s' r=>⟨rfl,h _ _ s' (gone 1) (gone 0) ?_ ⟨fun b o z _ _=>r.keep b o z,fun b o z _ _=>⟨o.slots,r.keep b o z⟩⟩⟩
 ·exact Heap.Ns1.of_empty ((Heap.Ns.new hh (.type "dict")).keeps fun b o z=>Heap.get?_push_of_some _ z)
 ·have none0:∀ {b:Addr},hh.get? b = none->c.H0.get? b = none /\ b ∉ c.fs:=fun {b} z=>by
   refine ⟨?_,fun q=>?_⟩
   ·cases q:c.H0.get? b with
    | none=>rfl
    | some o=>have:=S0.base b o q; rw [show hh.get? b = none from z] at this; cases this
   ·obtain ⟨_,o,_,_,q,_⟩:=fr_mem S0.fr q
    rw [show hh.get? b = none from z] at q; cases q
  refine ⟨fun b o z=>r.keep b o (S0.base b o z),S0.frm,S0.hd,fr_step S0.fr fun a _ o es n z1 z2=>⟨o,es,n,r.keep _ _ z1,z2⟩,r.gens.trans S0.gens,r.os.trans S0.os,r.dr.trans S0.dr,⟨fun x d hx=>?_⟩,fun z=>absurd (hp.symm.trans z) (by decide)⟩
  cases (show some _ = some _ from hx)
  obtain ⟨mA,n1,n2,n3⟩:=r.ns
  exact ⟨(none0 (gone 1)).2,(none0 (gone 0)).2,Nat.succ_ne_self _,(none0 (gone 1)).1,(none0 (gone 0)).1,r.at_,mA,n1,fun f v hv=>n2 f v (by cases f <;> first | exact hv | cases hv),n3⟩
end
end
theorem fx_sc {F:Fx} {sc:Scope} (h:F.sc = sc) {P:Env->Prop} (k:∀ q L fa cd cs,P (envK q sc L fa cd cs)):P F.env:=by subst h; exact k F.q F.L F.fa F.cd F.cs
theorem fx_cs {F:Fx} {cs:List (Str × Addr)} (h:F.cs = cs) {P:Env->Prop} (k:∀ q sc L fa cd,P (envK q sc L fa cd cs)):P F.env:=by subst h; exact k F.q F.sc F.L F.fa F.cd
theorem Step.but {fs ds X:List Addr} {h h1 h2:Heap} (st:Step fs ds h h1) (hX:∀ b ∈ X,h.get? b = none) (k:∀ b o,b ∉ X->h1.get? b = some o->h2.get? b = some o):Step fs ds h h2 :=
 have ne:∀ {b o},h.get? b = some o->b ∉ X:=fun e z=>by rw [hX _ z] at e; cases e
 ⟨fun b o e m n=>k b o (ne e) (st.same b o e m n),fun b o e m n=>let ⟨sl,e'⟩:=st.slot b o e m n; ⟨sl,k b _ (ne e) e'⟩⟩
def Strs (rs:List T) (ys:List Value):Prop:=ys.length = rs.length /\ ∀ (j:Nat) v,ys[j]? = some v->∃ (t:Tok) (k:T),rs[j]? = some k /\ v = .str (tx k) t /\ k.length <= lim
theorem Strs.snoc {rs:List T} {ys:List Value} (h:Strs rs ys) {t:T} {k:Tok} (hl:t.length <= lim):Strs (rs ++ [t]) (ys ++ [.str (tx t) k]):=by
 refine ⟨by simp [h.1],fun j v e=>?_⟩
 rcases Nat.lt_trichotomy j ys.length with q | q | q
 ·rw [List.getElem?_append_left q] at e
  obtain ⟨u,w,e1,e2⟩:=h.2 j v e
  exact ⟨u,w,by rw [List.getElem?_append_left (h.1 ▸ q),e1],e2⟩
 ·subst q
  rw [List.getElem?_append_right (Nat.le_refl _),Nat.sub_self] at e
  cases e
  exact ⟨k,t,by rw [h.1,List.getElem?_append_right (Nat.le_refl _),Nat.sub_self]; rfl,rfl,hl⟩
 ·rw [List.getElem?_eq_none (by rw [List.length_append]; exact q)] at e; cases e
section
variable {c:Cx} {A:Around} {sb s s':Shared} {sf sf0:Stem} {E:PR} {env:Env}
structure Mid (c:Cx) (A:Around) (sb s:Shared) (sf:Stem):Prop where
 sit:Sit c A s sf
 to:Step c.fs c.ds sb.heap s.heap
theorem Sit.but {X:List Addr} {h':Heap} {t:Nat} (Sb:Sit c A sb sf0) (S:Sit c A s sf) (hp:c.pos = false) (hX:∀ b ∈ X,sb.heap.get? b = none) (k:∀ b o,b ∉ X->s.heap.get? b = some o->h'.get? b = some o):Sit c A { s with heap:=h',toks:=t } sf:=by
 have ne:∀ {b o},sb.heap.get? b = some o->b ∉ X:=fun e z=>by rw [hX _ z] at e; cases e
 refine ⟨fun b o e=>k b o (ne (Sb.base b o e)) (S.base b o e),S.frm,S.hd,fr_step S.fr fun a m o es n e1 e2=>?_,S.gens,S.os,S.dr,⟨fun x d hx=>?_⟩,fun z=>by rw [hp] at z; cases z⟩
 ·obtain ⟨_,o',_,_,e3,_⟩:=fr_mem Sb.fr m
  exact ⟨o,es,n,k a o (ne e3) e1,e2⟩
 ·obtain ⟨_,_,_,_,_,b1,_,⟨_,_,_,b2,_⟩,_⟩:=Sb.slf.at_ x d hx
  obtain ⟨g1,g2,g3,g4,g5,g6,mA,g7,g8⟩:=S.slf.at_ x d hx
  exact ⟨g1,g2,g3,g4,g5,k _ _ (ne b1) g6,mA,ns1_up g7 fun o e=>⟨o.slots,k _ _ (ne b2) e⟩,g8⟩
theorem Mid.but {X:List Addr} {h':Heap} {t:Nat} (Sb:Sit c A sb sf0) (M:Mid c A sb s sf) (hp:c.pos = false) (hX:∀ b ∈ X,sb.heap.get? b = none) (k:∀ b o,b ∉ X->s.heap.get? b = some o->h'.get? b = some o):Mid c A sb { s with heap:=h',toks:=t } sf :=
 ⟨Sb.but M.sit hp hX k,M.to.but hX k⟩
theorem Mid.gone (M:Mid c A sb s sf) {b:Addr} (h:s.heap.get? b = none):sb.heap.get? b = none:=by
 cases e:sb.heap.get? b with
 | none=>rfl
 | some o =>
  by_cases m:b ∈ c.ds
  ·obtain ⟨_,o',_,_,e',_⟩:=M.sit.mut_none (.inr m)
   rw [h] at e'; cases e'
  ·obtain ⟨sl,e'⟩:=M.to.up e m
   rw [h] at e'; cases e'
theorem Sit.not_mut (Sb:Sit c A sb sf0) {b:Addr} (h:sb.heap.get? b = none):b ∉ c.fs /\ b ∉ c.ds:=by
 refine ⟨fun z=>?_,fun z=>?_⟩
 ·obtain ⟨_,o,_,_,e,_⟩:=Sb.mut_none (.inl z); rw [h] at e; cases e
 ·obtain ⟨_,o,_,_,e,_⟩:=Sb.mut_none (.inr z); rw [h] at e; cases e
structure It (c:Cx) (A:Around) (sb:Shared) (n:Nat) (G:Nat->Value->Prop) (I:Addr) (fp:List Addr) (Wt:Nat->Heap->Prop):Prop where
 W:Walks PG c.w A I fp [I] n G Wt
 I0:sb.heap.get? I = none
 hn:n <= lim
 hp:c.pos = false
 hfp:∀ b ∈ fp,b ∉ c.fs /\ b ∉ c.ds
def Turns (c:Cx) (A:Around) (sb:Shared) (n:Nat) (G:Nat->Value->Prop) (Rel:Nat->T->Prop) (x:Str) (elt:EX) (cenv:Env):Prop :=
 ∀ j y s' m sf',j < n->G j y->Mid c A sb s' sf'->s'.heap.Ns cenv.locals m->m x = some y->0 < s'.toks ->
  wpAny (MD c) A (eval elt cenv) (fun r s''=>∃ t k sf'',r = .str (tx t) k /\ t.length <= lim /\ Rel j t /\ Sit c A s'' sf'' /\ Step c.fs c.ds s'.heap s''.heap) (fun _ _=>False) s'
structure Made (c:Cx) (A:Around) (sb:Shared) (n:Nat) (Rel:Nat->T->Prop) (D:Addr) (s:Shared) (sf:Stem) (rs:List T) (ys:Array Value):Prop extends Mid c A sb s sf where
 lst:s.heap.IsList D ys
 txs:Strs rs ys.toList
 len:rs.length = n
 rel:∀ (j:Nat) t,rs[j]? = some t->Rel j t
theorem comp_loop {elt iter:EX} {x:Str} {px pos:Pos} {scope:Scope} {I D:Addr} {n:Nat} {G:Nat->Value->Prop} {fp:List Addr} {Wt:Nat->Heap->Prop} {Rel:Nat->T->Prop} {cenv:Env} {m:SV} {R:Result->Shared->Prop}
 (Y:It c A sb n G I fp Wt) (Sb:Sit c A sb sf0) (D0:sb.heap.get? D = none) (C0:sb.heap.get? cenv.locals = none) (hDC:D ≠ cenv.locals) (hDf:D ∉ fp) (hCf:cenv.locals ∉ fp) (hDI:D ≠ I) (hCI:cenv.locals ≠ I)
 (hx:cenv.kindOf x = some .local) (hpp:(cenv.scope.kind == .class || (cenv.scope.kind == .module && cenv.locals != cenv.globals)) = false) (turn:Turns c A sb n G Rel x elt cenv)
 (M:Mid c A sb s sf) (w0:Wt 0 s.heap) (l0:s.heap.IsList D #[]) (hn:s.heap.Ns cenv.locals m)
 (hR:∀ s' sf m rs ys,Made c A sb n Rel D s' sf rs ys->s'.heap.Ns cenv.locals m->R (.ok .next) s') :
 codeAny (MD c) A (.compLoop (.ListComp elt [⟨.Name x px,iter,[],0⟩] scope pos) 0 (.ref I) (.ref D) cenv) R s:=by
 refine codeAny_compLoop_list (fun k s'=>∃ j sf m rs ys,Made c A sb j Rel D s' sf rs ys /\ s'.heap.Ns cenv.locals m /\ Wt j s'.heap /\ j <= n /\ k = n + 1 - j) (fun k s1 h=>ex5 h fun j sf1 m1 rs ys h=>an5 h fun H hn1 w1 hj ek=>?_) (n + 1)
  ⟨0,sf,m,[],#[],⟨M,l0,⟨rfl,fun j v e=>(by cases e)⟩,rfl,fun j t e=>(by cases e)⟩,hn,w0,Nat.zero_le _,rfl⟩
 subst ek
 have nI:∀ {b:Addr},b ≠ I->b ∉ [I]:=fun h z=>h (List.mem_singleton.mp z)
 have XI:∀ b ∈ [I],sb.heap.get? b = none:=fun b z=>by rw [List.mem_singleton.mp z]; exact Y.I0
 rcases Nat.lt_or_ge j n with hlt | hge
 ·refine Y.W.item j s1 _ _ hlt w1 fun y h2 tk hy w2 k2=>?_
  refine wpAny_assign_Name (wpAny_storeName_local hx (hn1.at' fun o e=>k2 _ o (nI hCI) e) (fun h3 hn3 hs3=>?_) hpp)
  have M3:Mid c A sb { s1 with heap:=h3,toks:=tk + 1 } sf1:=Mid.but (s:={ s1 with heap:=h2,toks:=tk }) (X:=[cenv.locals]) Sb (H.toMid.but Sb Y.hp XI k2) Y.hp (fun b z=>by rw [List.mem_singleton.mp z]; exact C0) fun b o z e=>hs3.extBut b o (fun q=>z (by rw [q]; exact .head _)) e
  have w3:Wt (j + 1) h3:=Y.W.frame _ _ _ w2 fun b hb o e=>hs3.extBut b o (fun q=>hCf (q ▸ hb)) e
  have l3:h3.IsList D ys:=isList_keep H.lst fun o e=>hs3.extBut _ o hDC (k2 _ o (nI hDI) e)
  refine wpAny_mono (turn j y _ _ sf1 hlt hy M3 hn3 (if_pos rfl) (Nat.succ_pos _)) (fun r s4 h4=>?_) fun _ _ z=>z.elim
  refine ex3 h4 fun t u sf4 h=>an5 h fun er ht hr S4 st4=>?_
  subst er
  have Dm:=Sb.not_mut D0
  have hys:ys.size <= sizeLine:=by
   have e1:=H.txs.1
   rw [H.len,Array.length_toList] at e1
   have:=Y.hn
   have:=lim_line
   lia
  refine wpAny_list_append (hsz:=hys) (isList_keep l3 fun o e=>st4.same _ o e Dm.1 Dm.2) fun h5 l5 hs5=>?_
  have M5:Mid c A sb { s4 with heap:=h5,toks:=s4.toks } sf4:=Mid.but (X:=[D]) Sb ⟨S4,M3.to.trans st4⟩ Y.hp (fun b z=>by rw [List.mem_singleton.mp z]; exact D0) fun b o z e=>hs5.extBut b o (fun q=>z (by rw [q]; exact .head _)) e
  refine ⟨n + 1 - (j + 1),turn_lt hlt,j + 1,sf4,_,rs ++ [t],ys.push (.str (tx t) u),⟨M5,l5,?_,by rw [List.length_append,H.len]; rfl,fun i v e=>?_⟩,(ns_up hn3 fun o e=>st4.up e (Sb.not_mut C0).2).sameBut hs5 (Ne.symm hDC),?_,hlt,rfl⟩
  ·rw [Array.toList_push]; exact H.txs.snoc ht
  ·rcases Nat.lt_trichotomy i rs.length with q | q | q
   ·exact H.rel i v (by rwa [List.getElem?_append_left q] at e)
   ·subst q
    rw [List.getElem?_append_right (Nat.le_refl _),Nat.sub_self] at e
    cases e
    rw [H.len]; exact hr
   ·rw [List.getElem?_eq_none (by rw [List.length_append]; exact q)] at e; cases e
  ·exact Y.W.frame _ _ _ w3 fun b hb o e=>hs5.extBut b o (fun q=>hDf (q ▸ hb)) (st4.same b o e (Y.hfp b hb).1 (Y.hfp b hb).2)
 ·have hjn:j = n:=Nat.le_antisymm hj hge
  subst hjn
  refine Y.W.done s1 _ _ w1 fun h2 tk k2=>?_
  exact hR _ sf1 m1 rs ys ⟨H.toMid.but Sb Y.hp XI k2,isList_keep H.lst fun o e=>k2 _ o (nI hDI) e,H.txs,H.len,H.rel⟩ (hn1.at' fun o e=>k2 _ o (nI hCI) e)
theorem comp_block {elt iter:EX} {x:Str} {px pos:Pos} {scope:Scope} {cl:List (Str × Addr)} {I:Addr} {n:Nat} {G:Nat->Value->Prop} {fp:List Addr} {Wt:Nat->Heap->Prop} {Rel:Nat->T->Prop} {RR:Value->Addr->Result->Shared->Prop}
 (Y:It c A sb n G I fp Wt) (Sb:Sit c A sb sf0) (hcell:∀ y ∈ scope.names,y.2 ≠ .cell) (hkind:scope.kind = .function) (hx:scope.names.lookup x = some .local) (hfp:∀ b ∈ fp,b < s.heap.objs.size) (hI:I < s.heap.objs.size)
 (turn:∀ C,sb.heap.get? C = none->Turns c A sb n G Rel x elt (compEnvC scope cl C env)) (M:Mid c A sb s sf) (w0:Wt 0 s.heap)
 (hR:∀ D C s' sf m rs ys,sb.heap.get? D = none->sb.heap.get? C = none->D ≠ C->Made c A sb n Rel D s' sf rs ys->s'.heap.Ns C m->RR (.ref D) C (.ok .next) s') :
 wpAny (MD c) A (newList []) (fun acc s₃=>wpAny (MD c) A (newFunctionEnv scope env.globals cl [] env.qual none .none (some env)) (fun cenv s₄ =>
  codeAny (MD c) A (.compStart (.ListComp elt [⟨.Name x px,iter,[],0⟩] scope pos) 0 (.ref I) acc { cenv with scope:=relabel scope env }) (RR acc cenv.locals) s₄) E s₃) E s:=by
 refine wpAny_newObj_type (wpAny_newFunctionEnv hcell (by intro y hy; simp at hy) (fun h₁ hns₁ hsb₁=>?_) hkind)
 dsimp only at hns₁ hsb₁ ⊢
 generalize hH2:s.heap.push { cls:=.type "list",dict:=none,data:=.seq ([]:List Value).toArray } = H2 at hns₁ hsb₁ ⊢
 have hC:H2.objs.size = s.heap.objs.size + 1:=by rw [<- hH2,Heap.size_push]
 have hDC:s.heap.objs.size ≠ H2.objs.size:=by rw [hC]; exact Nat.ne_of_lt (Nat.lt_succ_self _)
 have old:∀ b o,b ≠ H2.objs.size->s.heap.get? b = some o->h₁.get? b = some o:=fun b o z e=>hsb₁.extBut b o z (Heap.get?_push_of_some _ (hH2 ▸ Heap.get?_push_of_some _ e))
 have old':∀ b o,s.heap.get? b = some o->h₁.get? b = some o:=fun b o e=>old b o (by rw [hC]; exact Nat.ne_of_lt (Nat.lt_succ_of_lt (Heap.lt_size e))) e
 have g0:=M.gone (b:=s.heap.objs.size) (Heap.get?_none_of_le (Nat.le_refl _))
 have g1:=M.gone (b:=H2.objs.size) (Heap.get?_none_of_le (by rw [hC]; exact Nat.le_succ _))
 have ne0:∀ {b},b < s.heap.objs.size->s.heap.objs.size ≠ b:=fun z q=>Nat.lt_irrefl _ (q ▸ z)
 have ne1:∀ {b},b < s.heap.objs.size->H2.objs.size ≠ b:=fun {b} z q=>by rw [<- q,hC] at z; exact absurd (Nat.lt_of_succ_lt z) (Nat.lt_irrefl _)
 have w1:Wt 0 h₁:=Y.W.frame _ _ _ w0 fun b _ o e=>old' b o e
 have loop:codeAny (MD c) A (.compLoop (.ListComp elt [⟨.Name x px,iter,[],0⟩] scope pos) 0 (.ref I) (.ref s.heap.objs.size) (compEnvC scope cl H2.objs.size env)) (RR (.ref s.heap.objs.size) H2.objs.size) { s with heap:=h₁,toks:=s.toks + ([]:List (Str × Value)).length } :=
  comp_loop (cenv:=compEnvC scope cl H2.objs.size env) Y Sb g0 g1 hDC (fun z=>ne0 (hfp _ z) rfl) (fun z=>ne1 (hfp _ z) rfl) (ne0 hI) (ne1 hI) (lookup_relabel_local hx) (by simp [compEnvC,relabel,hkind]) (turn _ g1)
   (M.but (X:=[]) Sb Y.hp (fun _ z=>nomatch z) fun b o _ e=>old' b o e) w1 ⟨_,hsb₁.extBut _ _ hDC (Heap.get?_push_of_some _ (hH2 ▸ Heap.get?_push_size _ rfl)),rfl,_,rfl⟩ hns₁ fun s' sf m rs ys H hn=>hR _ _ s' sf m rs ys g0 g1 hDC H hn
 exact codeAny_compStart_list loop (Y.W.self 0 _ _ _ w1 loop)
end
section
variable {c:Cx} {A:Around} {sb s:Shared} {sf sf0:Stem} {E:PR} {env:Env}
noncomputable def plainFn (st:Stmt):Bool:=isFd st && (!(scS st).isCoroutine && (!(scS st).isGenerator && decide ((scS st).kind = .function)))
theorem enterC {w:World} {H:Heap} (X:Top w H) {a:Addr} {md:Value} {q:Str} {st:Stmt} {args:List Value} {binds:List (Str × Value)} {R:Result->Shared->Prop} (hk:(KL w).lookup a = some (fnObj q md (a - 1) st)) (hq:fnAddrs.contains (a,q) = true) (hf:plainFn st = true)
 (hb:bindArgs (fdS q md (a - 1) st) ⟨args,[]⟩ = pure binds) (hd:A.depth < 1000) (hs:H.StaysIn s.heap)
 (hbk:∀ x ∈ binds,(scS st).names.lookup x.1 = some .local \/ ((scS st).names.lookup x.1 = some .cell /\ ((cellsFrom (s.heap.objs.size + 1) (scS st).names []).lookup x.1).isSome = true))
 (h:∀ s₁,InCallC s s.heap.objs.size (bindL (fun x=>(scS st).names.lookup x) binds fun _=>none) (cellsFrom (s.heap.objs.size + 1) (scS st).names []) (bindC (fun x=>(scS st).names.lookup x) binds fun _=>none) s₁ ->
  wpAny (model PG w) (A.deeper (envK q (scS st) s.heap.objs.size a (.ref (a - 1)) (cellsFrom (s.heap.objs.size + 1) (scS st).names []))) (execs (bdS st) (envK q (scS st) s.heap.objs.size a (.ref (a - 1)) (cellsFrom (s.heap.objs.size + 1) (scS st).names [])))
   (fun fl s'=>R (.ok (.ret (match fl with | .ret v=>v | _=>.none))) s') (fun _ _=>False) s₁) :
 codeAny (model PG w) A (.call (.ref a) ⟨args,[]⟩) R s:=by
 obtain ⟨f1,h1⟩:=and_inv hf
 obtain ⟨f2,h1⟩:=and_inv h1
 obtain ⟨f3,f4⟩:=and_inv h1
 obtain ⟨d1,d2,d3,d4,d5,d6,d7,d8⟩:=fd_data (q:=q) (md:=md) (cd:=a - 1) f1
 have cr:H.CodeRec (.ref (a - 1)) q:=X.code a q (by simpa using hq)
 have henv:callEnvC (fdS q md (a - 1) st) s.heap.objs.size a = envK q (scS st) s.heap.objs.size a (.ref (a - 1)) (cellsFrom (s.heap.objs.size + 1) (scS st).names []):=by
  unfold callEnvC newEnv envK envOf
  rw [d3,d4,d6,d7,d8]
 refine codeAny_call_cells hd (hs _ _ (X.K _ _ hk)) d1 ((noLimit X).keeps hs) (by rw [d7,d8]; exact cr.keeps hs) d2 hb d5 (by rw [d3]; exact hbk) (fun s₁ z=>?_) (by rw [d3]; exact not_inv f2) (by rw [d3]; exact not_inv f3) (by rw [d3]; exact of_decide_eq_true f4)
 rw [henv] at z ⊢
 exact wpAny_mono (h s₁ z) (fun _ _ z=>z) fun _ _ z=>z.elim
structure Iter (c:Cx) (A:Around) (env:Env) (sb:Shared) (x:Str) (elt:EX) (scope:Scope) (cl:List (Str × Addr)) (I:Addr) (n:Nat) (Rel:Nat->T->Prop) (s:Shared):Prop where
 at_:∃ G fp Wt sf,It c A sb n G I fp Wt /\ Wt 0 s.heap /\ (∀ b ∈ fp,b < s.heap.objs.size) /\ Mid c A sb s sf /\ ∀ C,sb.heap.get? C = none->Turns c A sb n G Rel x elt (compEnvC scope cl C env)
 hI:I < s.heap.objs.size
structure CompSc (scope:Scope) (cl:List (Str × Addr)) (x:Str) (env:Env):Prop where
 clos:closureFor scope env = pure cl
 cell:∀ y ∈ scope.names,y.2 ≠ .cell
 kind:scope.kind = .function
 names:∀ y ∈ scope.names,y.2 = .local->scope.names.lookup y.1 = some .local
 hx:scope.names.lookup x = some .local
theorem comp_eval {elt iter:EX} {x:Str} {px pos:Pos} {scope:Scope} {cl:List (Str × Addr)} {Q:PR} (Y:CompSc scope cl x env) (Sb:Sit c A sb sf0) (hi:∀ x,foldedSetIterable iter env x = pure x)
 (h:wpAny (MD c) A (eval iter env) (fun xv s₁=>wpAny (MD c) A (pyIter xv) (fun it s₂=>∃ I n Rel,it = .ref I /\ Iter c A env sb x elt scope cl I n Rel s₂ /\ ∀ D s' sf rs ys,sb.heap.get? D = none->Made c A sb n Rel D s' sf rs ys->Q (.ref D) s') E s₁) E s) :
 wpAny (MD c) A (eval (.ListComp elt [⟨.Name x px,iter,[],0⟩] scope pos) env) Q E s:=by
 rw [eval_ListComp]
 refine wpAny_comprehension_free (use:=none) rfl hi Y.clos Y.kind Y.names (wpAny_mono h (fun xv s₁ h₁=>wpAny_mono h₁ (fun it s₂ h₂=>?_) fun _ _ e=>e) fun _ _ e=>e)
 obtain ⟨I,n,Rel,rfl,⟨⟨G,fp,Wt,sf,hIt,w0,hfp,M,ht⟩,hI⟩,hQ⟩:=h₂
 refine comp_block (RR:=fun acc C=>compPost (MD c) A E none Q acc C) hIt Sb Y.cell Y.kind Y.hx hfp hI ht M w0 fun D C s' sf m rs ys hD hC hDC H hn=>⟨m,hn,fun h' hs'=>hQ D _ sf rs ys hD ⟨?_,?_,H.txs,H.len,H.rel⟩⟩
 ·exact H.toMid.but (X:=[C]) (t:=s'.toks) Sb hIt.hp (fun b z=>by rw [List.mem_singleton.mp z]; exact hC) fun b o z e=>hs'.extBut b o (fun q=>z (by rw [q]; exact .head _)) e
 ·exact H.lst.extBut hs'.extBut hDC
end
section
variable {c:Cx} {A:Around} {sb s:Shared} {sf sf0:Stem} {E:PR} {env:Env} {w:World} {S:Sets}
theorem Made.vr {n:Nat} {Rel:Nat->T->Prop} {D:Addr} {rs:List T} {ys:Array Value} (Sb:Sit c A sb sf0) (D0:sb.heap.get? D = none) (hn:n <= lim) (H:Made c A sb n Rel D s sf rs ys):VR c s.heap (.list (rs.map .str)) (.ref D):=by
 have m:=Sb.not_mut D0
 exact .list (fun z=>z.elim m.1 m.2) (vals:=ys.toList) H.lst (by rw [List.length_map,H.len]; exact hn) (strs_vrs rs ys.toList H.txs.1 H.txs.2)
theorem iter_list {a:Addr} {vals:List Value} {Rel:Nat->T->Prop} {x:Str} {elt:EX} {scope:Scope} {cl:List (Str × Addr)} {Q:PR} (Sb:Sit c A sb sf) (hp:c.pos = false) (hm:¬ c.mut a) (i1:sb.heap.IsList a vals.toArray) (hl:vals.length <= lim)
 (turn:∀ C,sb.heap.get? C = none->Turns c A sb vals.length (fun j y=>vals[j]? = some y) Rel x elt (compEnvC scope cl C env)) (hQ:∀ I s₂,Iter c A env sb x elt scope cl I vals.length Rel s₂->Q (.ref I) s₂):wpAny (MD c) A (pyIter (.ref a)) Q E sb:=by
 have W:=Walks.list (prog:=PG) (w:=c.w) Sb.hd sb.heap.objs.size a (by obtain ⟨o,ho,_⟩:=i1; exact Nat.ne_of_lt (Heap.lt_size ho)) vals.toArray
 simp only [List.size_toArray,List.getElem?_toArray] at W
 refine wpAny_pyIter_list i1 ?_
 refine hQ _ _ ⟨⟨_,_,_,sf,⟨W,Heap.get?_none_of_le (Nat.le_refl _),hl,hp,fun b hb=>?_⟩,⟨⟨_,Heap.get?_push_size _ rfl,rfl,rfl⟩,i1.push _⟩,fun b hb=>?_,?_,turn⟩,?_⟩
 ·rcases List.mem_cons.mp hb with e | hb
  ·rw [e]; exact ⟨fun z=>Sb.fresh (.inl z),fun z=>Sb.fresh (.inr z)⟩
  ·rw [List.mem_singleton.mp hb]; exact ⟨fun z=>hm (.inl z),fun z=>hm (.inr z)⟩
 ·rw [Heap.size_push]
  rcases List.mem_cons.mp hb with e | hb
  ·rw [e]; exact Nat.lt_succ_self _
  ·rw [List.mem_singleton.mp hb]
   obtain ⟨o,ho,_⟩:=i1
   exact Nat.lt_succ_of_lt (Heap.lt_size ho)
 ·exact Mid.but (s:=sb) (X:=[]) Sb ⟨Sb,Step.refl ..⟩ hp (fun _ z=>nomatch z) fun b o _ e=>Heap.get?_push_of_some _ e
 ·rw [Heap.size_push]; exact Nat.lt_succ_self _
noncomputable def low (t:T):T:=replAll (cps "U") (cps "u") (replAll (cps "I") (cps "i") t.length t).length (replAll (cps "I") (cps "i") t.length t)
theorem ends_turn {vals:List Value} {fs:List T} {p1 p2 p3 p4 p5 ap cp ap2 cp2:Pos} {cenv:Env} {n:Nat} (hp:c.pos = false) (h1:(ap.endLine == cp.line) = true) (h2:(ap2.endLine == cp2.line) = true) (hs:Strs fs vals) (hok:fs.all (fun t=>replOk t (cps "I") (cps "i") && replOk (replAll (cps "I") (cps "i") t.length t) (cps "U") (cps "u")) = true)
 (hk:cenv.scope.kind = .function) (hx:cenv.kindOf "end" = some .local) :
 Turns c A sb n (fun j y=>vals[j]? = some y) (fun j t=>∃ f,fs[j]? = some f /\ t = low f) "end"
  (.Call (.Attribute (.Call (.Attribute (.Name "end" p1) "replace" ap) [.Constant (.str "I") 0 p2,.Constant (.str "i") 0 p3] [] cp) "replace" ap2) [.Constant (.str "U") 0 p4,.Constant (.str "u") 0 p5] [] cp2) cenv:=by
 intro j y s' m sf' hj hy M hn hm ht
 obtain ⟨k,f,hf,rfl,hl⟩:=hs.2 j y hy
 obtain ⟨r1,r2⟩:=and_inv (List.all_eq_true.mp hok f (List.mem_of_getElem? hf))
 refine wpAny_Call_method rfl rfl h2 PySem.F.plainAttrs_str PySem.F.slot_str_replace PySem.F.type_str_replace (wpAny_Call_method rfl rfl h1 PySem.F.plainAttrs_str PySem.F.slot_str_replace PySem.F.type_str_replace ?_)
 refine wpAny_Name (wpAny_loadName_local hk hx hn hm ⟨typeIs_str _ _ _,fun a e=>(nomatch e),?_⟩) (by decide)
 refine callWith_machine rfl rfl ?_
 show wpAny (MD c) A (evalArgs _ true ((false,eval (.Constant (.str "I") 0 p2) cenv) :: [(false,eval (.Constant (.str "i") 0 p3) cenv)]) []) _ _ _
 refine evalArgs_plain (spliced_cons (wpAny_Constant_str (spliced_cons (wpAny_Constant_str (spliced_nil ?_)))))
 refine p_repl0 (s:=f) (t:=cps "I") (b:=cps "i") (Nat.ne_of_gt ht) (Nat.succ_ne_zero _) (Nat.ne_of_lt (Nat.lt_succ_self _)) hl r1 fun k1 n1 hl1 hn1=>?_
 refine ⟨typeIs_str _ _ _,fun a e=>(nomatch e),?_⟩
 refine callWith_machine rfl rfl ?_
 have hn1:0 < n1:=Nat.lt_of_lt_of_le (Nat.succ_pos _) hn1
 show wpAny (MD c) A (evalArgs _ true ((false,eval (.Constant (.str "U") 0 p4) cenv) :: [(false,eval (.Constant (.str "u") 0 p5) cenv)]) []) _ _ _
 refine evalArgs_plain (spliced_cons (wpAny_Constant_str (spliced_cons (wpAny_Constant_str (spliced_nil ?_)))))
 refine p_repl0 (s:=replAll (cps "I") (cps "i") f.length f) (t:=cps "U") (b:=cps "u") (Nat.ne_of_gt hn1) (Nat.succ_ne_zero _) (Nat.ne_of_lt (Nat.lt_succ_self _)) hl1 r2 fun k2 n2 hl2 hn2=>?_
 exact ⟨_,_,sf',rfl,hl2,⟨f,hf,rfl⟩,M.sit.keep (h':=s'.heap) (t:=n2) (Step.refl ..) (fun z=>by rw [hp] at z; cases z),Step.refl ..⟩
noncomputable def endsS:Stmt:=fnStmt "" "_law_ends"
noncomputable def endsC:Scope:={ kind:=.function,names:=[(".0",.local),("end",.local)],isGenerator:=false,isCoroutine:=false,more:=[] }
noncomputable def endsA:Stmt:=((bdS endsS)[0]?).getD passS
noncomputable def endsR:Stmt:=.Return (some (.ListComp (.Call (.Attribute (.Call (.Attribute (.Name "end" ⟨985,12,985,15⟩) "replace" ⟨985,12,985,23⟩) [(.Constant (.str "I") 0 ⟨985,24,985,27⟩),(.Constant (.str "i") 0 ⟨985,29,985,32⟩)] [] ⟨985,12,985,33⟩) "replace" ⟨985,12,985,41⟩) [(.Constant (.str "U") 0 ⟨985,42,985,45⟩),(.Constant (.str "u") 0 ⟨985,47,985,50⟩)] [] ⟨985,12,985,51⟩) [⟨.Name "end" ⟨985,56,985,59⟩,.Name "found" ⟨985,63,985,68⟩,[],0⟩] endsC ⟨985,11,985,69⟩)) ⟨985,4,985,69⟩
theorem ends_body:bdS endsS = [endsA,endsR]:=by kernel_rfl
noncomputable def endsI:IS:=.asgn 0 (.bin .Add (.bin .Add (.bin .Add (.listOf (.callF .nouns .nil)) .short) (.listOf (.callF .verbs .nil))) (.listOf (.callF .last .nil)))
theorem ends_chk:chkS (scS endsS) endsI endsA = true:=by kernel_rfl
noncomputable def lastL:List T:=[cps "e",cps "Ière",cps "ière",cps "ion",cps "Ier",cps "ier"]
noncomputable def foundL:List T:=nounsL.map (·.1) ++ shortL ++ verbsL.map (·.1) ++ lastL
theorem found_ok:foundL.all (fun t=>replOk t (cps "I") (cps "i") && replOk (replAll (cps "I") (cps "i") t.length t) (cps "U") (cps "u")) = true:=by kernel_rfl
theorem found_low:foundL.all (fun t=>Nat.ble (low t).length 20) = true:=by kernel_rfl
theorem found_len:(Nat.ble 1 foundL.length && Nat.ble foundL.length 1000) = true:=by kernel_rfl
theorem ends_W {n:Nat} {s:Stem} {P:QS} (h:P .next [some (.list (foundL.map .str))] s):wpS (tblAt 1) n endsI [none] s P:=by
 have a1:foundL.map V.str = (((nounsL.map (·.1)).map V.str ++ shortL.map V.str) ++ (verbsL.map (·.1)).map V.str) ++ lastL.map V.str:=by
  unfold foundL
  rw [List.map_append,List.map_append,List.map_append]
 rw [a1] at h
 refine ⟨⟨rfl,?_⟩⟩
 refine ⟨rfl,?_⟩
 refine ⟨by kernel_rfl,?_⟩
 refine ⟨⟨rfl,?_⟩⟩
 refine ⟨rfl,?_⟩
 refine ⟨by kernel_rfl,?_⟩
 refine WF.run rfl rfl ?_
 refine ⟨rfl,?_⟩
 refine ⟨rfl,?_⟩
 refine ⟨by kernel_rfl,?_⟩
 exact h
theorem strs_of {h:Heap} {ks:List T} {vals:List Value} (r:VRs c h (ks.map .str) vals):Strs ks vals:=by
 refine ⟨by rw [r.len,List.length_map],fun j v e=>?_⟩
 obtain ⟨x,e1,r1⟩:=r.get' e
 rw [List.getElem?_map] at e1
 obtain ⟨k,e2,rfl⟩:=Option.map_eq_some_iff.mp e1
 obtain ⟨t,rfl,hl⟩:=r1.str_inv
 exact ⟨t,k,e2,rfl,hl⟩
theorem actS (e:Env0 w S c) (hp:c.pos = false) (D:Dicts c) (n:Nat) {envs:List Env} {sc:Scope} {L fa:Addr} {q:Str} {cd:Value} {cs:List (Str × Addr)} (hk:sc.kind = .function) (hu:(locsOf sc).Nodup) (hroom:A.depth + (n + 1) <= 900) :
 ActS ⟨{ c with envs:=envK q sc L fa cd cs :: envs,pos:=c.pos },KS w S,tblAt n,n + 1,A,sc,L,q,fa,cd,cs⟩ labC envs :=
 have T:=tbl_at e hp D n
 { O:=by show KOk _ c.FC c.AC; rw [e.FC,e.AC]; exact kOk w S,X:=KS_in e.X e.Z,T:=⟨T.fn,T.mt,T.short,T.tab,T.cls⟩,hk:=hk,hu:=hu,room:=hroom,lists:=e.lists,lo:=fun _=>hp,lo':=fun z=>absurd (((tblAt_tab n).2.2).symm.trans z) (by decide),hc:=rfl,lab:=labs e.X S }
theorem ends_in {F:Fx} {outer:List Env} {m:SV} {Q:FS} (X:ActS F labC outer) (h1:F.C = tblAt 1) (h2:F.sc = scS endsS) (hp:F.c.pos = false) (S2:F.St s m [none] sf)
 (h:∀ y s' sf' (es:List T),Sit F.c F.A s' sf'->Step F.c.fs (F.L :: F.c.ds) s.heap s'.heap->VR F.c s'.heap (.list (es.map .str)) y->0 < es.length->(∀ x ∈ es,x.length <= 20)->Q (.ret y) s'):wpAny F.M F.A (execs [endsA,endsR] F.env) Q E s:=by
 refine wpAny_execs_cons (sndS_asgn X endsA (by rw [h2]; exact ends_chk) 0 _ [none] _ sf (fun fl l _=>fl = .next /\ l = [some (.list (foundL.map .str))]) _ _ S2 (by rw [h1]; exact ends_W ⟨rfl,rfl⟩) fun fl l s1 hP=>?_)
 obtain ⟨rfl,rfl⟩:=hP
 intro s2 m2 G
 unfold endsR
 refine wpAny_execs_cons (wpAny_Return_some (comp_eval (c:=F.c) ⟨closureFor_none (by decide +kernel),by decide +kernel,rfl,by decide +kernel,rfl⟩ G.st.toSit (fun _=>rfl) (p_loc G.st X.hk (i:=0) (show isLoc F.sc 0 "found" = true by rw [h2]; kernel_rfl) rfl fun y _ ry=>?_)))
 obtain ⟨a,vals,rfl,hm,i1,hl,rs⟩:=ry.list_inv
 have hlen:=rs.len
 refine iter_list (Rel:=fun j t=>∃ f,foundL[j]? = some f /\ t = low f) G.st.toSit hp hm i1 (by rw [hlen]; exact hl) (fun C _=>?_) fun I s4 Y4=>⟨I,_,_,rfl,Y4,fun D s3 sf3 rs' ys hD H=>?_⟩
 ·exact ends_turn hp rfl rfl (strs_of rs) found_ok rfl (by kernel_rfl)
 obtain ⟨l1,l2⟩:=and_inv found_len
 refine h _ s3 sf3 rs' H.sit (G.to.trans (H.to.wide fun _ z=>.tail _ z)) (H.vr G.st.toSit hD (by rw [hlen]; exact hl)) ?_ fun x hx=>?_
 ·rw [H.len,hlen,List.length_map]; exact Nat.le_of_ble_eq_true l1
 ·obtain ⟨j,hj⟩:=List.getElem?_of_mem hx
  obtain ⟨f,hf,rfl⟩:=H.rel j x hj
  exact Nat.le_of_ble_eq_true (List.all_eq_true.mp found_low f (List.mem_of_getElem? hf))
theorem lr_none {m:SV} {sc:Scope} {n:Nat} (h:(locsOf sc).length = n) {hp:Heap}:LR c hp sc m (List.replicate n none) :=
 ⟨by rw [List.length_replicate,h],fun i n e v hv=>by
  rw [List.getElem?_replicate] at hv
  split at hv <;> cases hv⟩
theorem call_ends {Q:PR} (e:Env0 w S c) (hp:c.pos = false) (D:Dicts c) (S0:Sit c A s sf) (hroom:A.depth <= 800)
 (h:∀ y s' sf' (es:List T),Sit c A s' sf'->Step c.fs c.ds s.heap s'.heap->VR c s'.heap (.list (es.map .str)) y->0 < es.length->(∀ x ∈ es,x.length <= 20)->Q y s'):wpAny (MD c) A (call (.ref 908) []) Q E s:=by
 have hw:=e.hw
 subst hw
 refine wpAny_call (enterC e.X (md:=mdOf 3) (q:="_law_ends") (st:=endsS) (binds:=[]) (by kernel_rfl) (by kernel_rfl) (by kernel_rfl) (by kernel_rfl) (by lia) S0.base (fun x z=>nomatch z) fun s₁ z=>?_)
 rw [show cellsFrom (s.heap.objs.size + 1) (scS endsS).names [] = [] by kernel_rfl] at z ⊢
 obtain ⟨⟨⟨h₀,tk,rfl⟩,ns,keep,_⟩,_,_,_⟩:=z
 have X:=actS (A:=A.deeper (envK "_law_ends" (scS endsS) s.heap.objs.size 908 (.ref 907) [])) (envs:=c.envs) (sc:=scS endsS) (L:=s.heap.objs.size) (fa:=908) (q:="_law_ends") (cd:=.ref 907) (cs:=[]) e hp D 1 (by kernel_rfl) (by decide +kernel) (by show A.depth + 1 + 2 <= 900; lia)
 rw [ends_body]
 refine ends_in X rfl rfl hp ⟨Sit.deeper (c:=c) (envs:=c.envs) (p:=c.pos) S0 rfl X.hk ns keep (fun z=>by rw [hp] at z; cases z),ns,List.mem_cons_self,lr_none (n:=1) (by kernel_rfl)⟩ fun y s3 sf3 es Z st r l1 l2=>?_
 obtain ⟨g1,g2⟩:=Sit.back (c:=c) (envs:=c.envs) (p:=c.pos) S0 rfl rfl keep (fun z=>z) Z st
 exact h y s3 sf3 es g1 g2 (VR.up r) l1 l2
end
section
variable {c:Cx} {A:Around} {sb s:Shared} {sf sf0:Stem} {E:PR} {env:Env} {w:World} {S:Sets}
theorem cell_keep {a:Addr} {v:Option Value} {h':Heap} (Sb:Sit c A sb sf0) (x:sb.heap.IsCell a v) (st:Step c.fs c.ds sb.heap h'):h'.IsCell a v:=by
 obtain ⟨o,ho,hd⟩:=x
 have nm:¬ c.mut a:=fun z=>by
  obtain ⟨_,o',_,_,e,e'⟩:=Sb.mut_none z
  rw [ho] at e; cases e
  rw [hd] at e'; cases e'
 exact ⟨o,st.same _ o ho (fun z=>nm (.inl z)) fun z=>nm (.inr z),hd⟩
noncomputable def wordsS:Stmt:=fnStmt "BaseStemmer" "stemWords"
noncomputable def wordsC:Scope:={ kind:=.function,names:=[(".0",.local),("word",.local),("self",.free)],isGenerator:=false,isCoroutine:=false,more:=[] }
noncomputable def wordsR:Stmt:=.Return (some (.ListComp (.Call (.Attribute (.Name "self" ⟨209,16,209,20⟩) "stemWord" ⟨209,16,209,29⟩) [(.Name "word" ⟨209,30,209,34⟩)] [] ⟨209,16,209,35⟩) [⟨.Name "word" ⟨209,40,209,44⟩,.Name "words" ⟨209,48,209,53⟩,[],0⟩] wordsC ⟨209,15,209,54⟩)) ⟨209,8,209,54⟩
theorem words_body:bdS wordsS = [wordsR]:=by kernel_rfl
theorem map_of {f:T->T}:∀ {rs ws:List T},rs.length = ws.length->(∀ (j:Nat) t,rs[j]? = some t->∃ w,ws[j]? = some w /\ t = f w)->rs = ws.map f
 | [],[],_,_=>rfl
 | r :: rs,w :: ws,hl,h=>by
  obtain ⟨w',e1,e2⟩:=h 0 r rfl
  cases e1
  rw [List.map_cons,<- e2,<- map_of (Nat.succ.inj hl) fun j t e=>h (j + 1) t e]
theorem words_turn {F:Fx} {vals:List Value} {ws:List T} {p1 p2 ap cp:Pos} {cenv:Env} {n:Nat} {x d c1:Addr} (X:Act F) (h1:F.C = tblAt 6) (hx:F.c.slf = some (x,d)) (hline:(ap.endLine == cp.line) = true) (hs:Strs ws vals) (hw:∀ w ∈ ws,w.length <= 100)
 (Sb:Sit F.c F.A sb sf) (hc:sb.heap.IsCell c1 (some (.ref x))) (hk:cenv.scope.kind = .function) (hl:cenv.kindOf "word" = some .local) (hS:cenv.kindOf "self" = some .cell) (hcl:cenv.cells.lookup ("self":Str) = some c1) :
 Turns F.c F.A sb n (fun j y=>vals[j]? = some y) (fun j t=>∃ w,ws[j]? = some w /\ t = stemS w) "word" (.Call (.Attribute (.Name "self" p1) "stemWord" ap) [.Name "word" p2] [] cp) cenv:=by
 intro j y s' m sf' hj hy M hn hm ht
 obtain ⟨k,w,hw1,rfl,hlen⟩:=hs.2 j y hy
 obtain ⟨f,hf1,hf2,⟨o,fd,ho,hd⟩,run⟩:=X.T.mt .stemWord
 obtain ⟨_,_,_,_,_,h6,mA,h7,hF⟩:=M.sit.slf.at_ x d hx
 have hu:slfRun (F.C.mt .stemWord) [.self,.str w] sf' (fun v _=>v = .str (stemS w)):=by
  rw [h1]
  exact (stemWord_W (C:=tblAt 0) rfl rfl (hw w (List.mem_of_getElem? hw1)) fun _ _=>rfl).ex
 refine p_meth X.O hf1 hf2 rfl hline rfl (wpAny_Name (wpAny_loadName_cell hk hS hcl (cell_keep Sb hc M.to) ⟨x,d,mA,rfl,In.here X.X M.sit,h6,h7.ns,hF.only _ fun g z=>mnm_fld .stemWord g z,?_⟩) (by decide))
 refine callWith_function (o:=o) (fd:=fd) (evalArgs_plain (spliced_cons (x:=eval (.Name "word" p2) cenv) (wpAny_Name (wpAny_loadName_local hk hl hn hm (spliced_nil ⟨⟨M.sit.base _ _ ho,hd⟩,?_⟩)) (by decide))))
 refine run F.c.envs F.A s' sf' _ _ _ _ _ M.sit X.room (.cons (.self hx) (.cons (.str w k hlen) .nil)) hu fun v s2 y t2 hv S2 st2 r2=>?_
 subst hv
 obtain ⟨k2,rfl,hl2⟩:=r2.str_inv
 exact ⟨_,k2,s2,rfl,hl2,⟨w,hw1,rfl⟩,S2,st2⟩
theorem words_in {F:Fx} {outer:List Env} {m:SV} {Q:FS} {ws:List T} {x d c1:Addr} (X:ActS F labC outer) (h1:F.C = tblAt 6) (h2:F.sc = scS wordsS) (h3:F.cs = [(("self":Str),c1)]) (hp:F.c.pos = false) (hx:F.c.slf = some (x,d)) (hw:∀ w ∈ ws,w.length <= 100)
 (S2:F.St s m [some (.list (ws.map .str))] sf) (hc:s.heap.IsCell c1 (some (.ref x)))
 (h:∀ y s' sf',Sit F.c F.A s' sf'->Step F.c.fs F.c.ds s.heap s'.heap->VR F.c s'.heap (.list ((ws.map stemS).map .str)) y->Q (.ret y) s'):wpAny F.M F.A (execs [wordsR] F.env) Q E s:=by
 unfold wordsR
 have hcl:closureFor wordsC F.env = pure [(("self":Str),c1)]:=fx_cs (P:=fun e=>closureFor wordsC e = pure [(("self":Str),c1)]) h3 fun _ _ _ _ _=>rfl
 refine wpAny_execs_cons (wpAny_Return_some (comp_eval (c:=F.c) ⟨hcl,by decide +kernel,rfl,by decide +kernel,rfl⟩ S2.toSit (fun _=>rfl) (p_loc S2 X.hk (i:=0) (show isLoc F.sc 0 "words" = true by rw [h2]; kernel_rfl) rfl fun y _ ry=>?_)))
 obtain ⟨a,vals,rfl,hm,i1,hl,rs⟩:=ry.list_inv
 have hlen:=rs.len
 rw [List.length_map] at hlen hl
 refine iter_list (Rel:=fun j t=>∃ w,ws[j]? = some w /\ t = stemS w) S2.toSit hp hm i1 (by rw [hlen]; exact hl) (fun C _=>?_) fun I s4 Y4=>⟨I,_,_,rfl,Y4,fun D s3 sf3 rs' ys hD H=>?_⟩
 ·refine words_turn X.toAct h1 hx rfl (strs_of rs) hw S2.toSit hc rfl (by kernel_rfl) (fx_sc (P:=fun e=>(compEnvC wordsC [(("self":Str),c1)] C e).kindOf "self" = some .cell) h2 fun _ _ _ _ _=>by kernel_rfl) (by kernel_rfl)
 ·cases map_of (f:=stemS) (H.len.trans hlen) H.rel
  exact h _ s3 sf3 H.sit H.to (H.vr S2.toSit hD (by rw [hlen]; exact hl))
theorem words_at:(KL w).lookup 194 = some (fnObj "BaseStemmer.stemWords" (mdOf 0) (194 - 1) wordsS):=by kernel_rfl
theorem words_code:fnAddrs.contains (194,"BaseStemmer.stemWords") = true:=by kernel_rfl
theorem words_plain:plainFn wordsS = true:=by kernel_rfl
theorem words_bind (x y:Value):bindArgs (fdS "BaseStemmer.stemWords" (mdOf 0) (194 - 1) wordsS) ⟨[x,y],[]⟩ = pure [(("self":Str),x),("words",y)]:=by kernel_rfl
theorem words_cells {n:Nat}:cellsFrom n (scS wordsS).names [] = [(("self":Str),n)]:=by kernel_rfl
theorem words_bk {n:Nat} {x y:Value}:∀ b ∈ [(("self":Str),x),("words",y)],(scS wordsS).names.lookup b.1 = some .local \/ ((scS wordsS).names.lookup b.1 = some .cell /\ ((cellsFrom n (scS wordsS).names []).lookup b.1).isSome = true):=by
 intro b z
 rcases List.mem_cons.mp z with rfl | z
 ·exact .inr ⟨by kernel_rfl,by kernel_rfl⟩
 ·cases List.mem_singleton.mp z
  exact .inl (by kernel_rfl)
theorem words_loc:locsOf (scS wordsS) = [("words":Str)]:=by kernel_rfl
theorem call_words {x d:Addr} {y:Value} {ws:List T} {Q:PR} (e:Env0 w S c) (hp:c.pos = false) (D:Dicts c) (S0:Sit c A s sf) (hroom:A.depth <= 800) (hx:c.slf = some (x,d)) (hw:∀ w ∈ ws,w.length <= 100) (r:VR c s.heap (.list (ws.map .str)) y)
 (h:∀ y s' sf',Sit c A s' sf'->Step c.fs c.ds s.heap s'.heap->VR c s'.heap (.list ((ws.map stemS).map .str)) y->Q y s'):wpAny (MD c) A (call (.ref 194) [.ref x,y]) Q E s:=by
 have hw':=e.hw
 subst hw'
 refine wpAny_call (enterC e.X (q:="BaseStemmer.stemWords") words_at words_code words_plain (words_bind _ _) (by lia) S0.base words_bk fun s₁ z=>?_)
 rw [words_cells] at z ⊢
 obtain ⟨⟨⟨h₀,tk,rfl⟩,ns,keep,_⟩,hcell,_,_⟩:=z
 have X:=actS (A:=A.deeper (envK "BaseStemmer.stemWords" (scS wordsS) s.heap.objs.size 194 (.ref 193) [("self",s.heap.objs.size + 1)])) (envs:=c.envs) (sc:=scS wordsS) (L:=s.heap.objs.size) (fa:=194) (q:="BaseStemmer.stemWords") (cd:=.ref 193) (cs:=[("self",s.heap.objs.size + 1)]) e hp D 6 (by kernel_rfl) (by decide +kernel) (by show A.depth + 1 + 7 <= 900; lia)
 rw [words_body]
 have rv:=VRs.deeper (c:=c) (envs:=c.envs) (p:=c.pos) (env:=envK "BaseStemmer.stemWords" (scS wordsS) s.heap.objs.size 194 (.ref 193) [("self",s.heap.objs.size + 1)]) (.cons r .nil) rfl keep
 refine words_in X rfl rfl rfl hp hx hw ⟨Sit.deeper (c:=c) (envs:=c.envs) (p:=c.pos) S0 rfl X.hk ns keep (fun z=>by rw [hp] at z; cases z),ns,List.mem_cons_self,⟨by rw [show Fx.sc _ = scS wordsS from rfl,words_loc]; rfl,fun i n e v hv=>?_⟩⟩ (hcell "self" _ (by kernel_rfl)) fun y s3 sf3 Z st r=>?_
 ·cases i with
  | zero =>
   cases hv
   obtain ⟨_,_,q,r1,_⟩:=rv.cons_inv
   cases q
   rw [words_loc] at e
   cases e
   exact ⟨y,by kernel_rfl,r1⟩
  | succ i=>cases hv
 ·obtain ⟨g1,g2⟩:=Sit.back (c:=c) (envs:=c.envs) (p:=c.pos) S0 rfl rfl keep (fun z=>z) Z (st.wide fun _ z=>.tail _ z)
  exact h y s3 sf3 g1 g2 (VR.up r)
theorem ne_same {y z:Value} {ts:List T} {Q:PR} (r1:VR c s.heap (.list (ts.map .str)) y) (r2:VR c s.heap (.list (ts.map .str)) z) (hu:A.units < cLine) (h:Q (.bool false) s):wpAny (MD c) A (compareOp .NotEq y z) Q E s:=by
 obtain ⟨a,va,rfl,_,i1,_,q1⟩:=r1.list_inv
 obtain ⟨b,vb,rfl,_,i2,_,q2⟩:=r2.list_inv
 have s1:=strs_of q1
 have s2:=strs_of q2
 have e:(!(List.range va.toArray.size).all fun _=>true) = false:=by simp
 have k:=PySem.SeqAt.RcNeAt.lists (A:=A) (e:=fun _=>true) i1 i2 (by simp [s1.1,s2.1]) hu (fun j h1 h2=>by
  obtain ⟨t,k,e1,e2,_⟩:=s1.2 j va.toArray[j] (by simp)
  obtain ⟨t',k',e3,e4,_⟩:=s2.2 j vb.toArray[j] (by simp)
  rw [e1] at e3; cases e3
  rw [e2,e4]
  have:=PySem.SeqAt.EqAt.str_str (A:=A.in1) (s:=s) (tx k) t (tx k) t'
  rwa [beq_self_eq_true] at this)
 rw [e] at k
 exact k PG c.w E Q h
end
noncomputable def lawS:Stmt:=fnStmt "" "law"
noncomputable def lawI:IS:=.forR 1 (cI 0) (.len (.loc 2)) (cI 1) (ss [.asgn 4 (.bin .Sub (.bin .Sub (.len (.loc 2)) (cI 1)) (.loc 1)),
 .ite (.bop .Or (es [.cmp .NotEq (.callM .stemWord 0 (es [.idx (.loc 2) (.loc 4)])) (.idx (.loc 3) (.loc 4)),.cmp .NotEq (.callM .get_current 0 (es [])) (.idx (.loc 3) (.loc 4))])) (ss [.ret (.con (.bool false))]) (ss [])])
noncomputable def lawN:Stmt:=((bdS lawS)[5]?).getD passS
theorem lawN_chk:chkS (scS lawS) lawI lawN = true:=by kernel_rfl
section
variable {ws:List T} {P:QS} {n:Nat}
noncomputable abbrev lawL (ws:List T) (x y:Option V):Lc:=[some .self,x,some (.list (ws.map .str)),some (.list ((ws.map stemS).map .str)),y]
noncomputable def lawB:ISs:=ss [.asgn 4 (.bin .Sub (.bin .Sub (.len (.loc 2)) (cI 1)) (.loc 1)),
 .ite (.bop .Or (es [.cmp .NotEq (.callM .stemWord 0 (es [.idx (.loc 2) (.loc 4)])) (.idx (.loc 3) (.loc 4)),.cmp .NotEq (.callM .get_current 0 (es [])) (.idx (.loc 3) (.loc 4))])) (ss [.ret (.con (.bool false))]) (ss [])]
theorem law_at {k:Nat} (hk:k < ws.length):∃ w,w ∈ ws /\ pyAt (ws.map V.str) (((ws.map V.str).length:Int) - 1 - (k:Int)) = some (.str w) /\ pyAt ((ws.map stemS).map V.str) (((ws.map V.str).length:Int) - 1 - (k:Int)) = some (.str (stemS w)):=by
 have e:((ws.map V.str).length:Int) - 1 - (k:Int) = ((ws.length - 1 - k:Nat):Int):=by rw [List.length_map]; omega
 have hj:ws.length - 1 - k < ws.length:=by omega
 have at_:∀ {l:List V},pyAt l ((ws.length - 1 - k:Nat):Int) = l[ws.length - 1 - k]?:=fun {l}=>by
  unfold pyAt
  rw [if_neg (Int.not_lt.mpr (Int.natCast_nonneg _)),Int.toNat_natCast]
 rw [e,at_,at_,List.getElem?_map,List.getElem?_map,List.getElem?_map,List.getElem?_eq_getElem hj]
 exact ⟨_,List.getElem_mem hj,rfl,rfl⟩
theorem law_turn {s:Stem} {x y:Option V} {K:QS} {k:Nat} (hk:k < ws.length) (hw:∀ w ∈ ws,w.length <= 100) (h:∀ s' y,K .next (lawL ws (some (.int k)) y) s'):wpSs (tblAt 7) n lawB (lawL ws (some (.int k)) y) s K:=by
 obtain ⟨w,hm,a1,a2⟩:=law_at hk
 refine ⟨_,a1,?_⟩
 refine stemWord_W (C:=tblAt 1) rfl rfl (hw w hm) fun s1 hc=>?_
 refine ⟨_,a2,?_⟩
 have no:(!decide (stemS w = stemS w)) = false:=by rw [decide_eq_true rfl]; rfl
 refine ⟨fun q=>absurd (no.symm.trans q) fT,fun _=>?_⟩
 refine current_W (C:=tblAt 6) ?_
 rw [hc]
 refine ⟨_,a2,?_⟩
 refine ⟨fun q=>absurd (no.symm.trans q) fT,fun _=>?_⟩
 exact h s1 _
theorem law_loop (hw:∀ w ∈ ws,w.length <= 100):∀ (ks:List Nat) {s:Stem} {x y:Option V},(∀ k ∈ ks,k < ws.length)->(∀ s' x y,P .next (lawL ws x y) s')->wL 1 (wpSs (tblAt 7) n lawB) (ks.map fun (k:Nat)=>V.int k) (lawL ws x y) s P
 | [],s,x,y,_,h=>h s x y
 | k :: ks,s,x,y,hk,h=>law_turn (x:=x) (hk k (.head _)) hw fun s' y'=>law_loop hw ks (fun k z=>hk k (.tail _ z)) h
theorem law_W {s:Stem} {x y:Option V} (hw:∀ w ∈ ws,w.length <= 100) (hl:ws.length <= 1000) (h:∀ s' x y,P .next (lawL ws x y) s'):wpS (tblAt 7) n lawI (lawL ws x y) s P:=by
 have e:rangeV 0 (((ws.map V.str).length:Nat):Int) 1 = (List.range ws.length).map fun (k:Nat)=>V.int k:=by
  unfold rangeV
  rw [if_pos rfl,Int.sub_zero,List.length_map,Int.toNat_natCast]
  refine List.map_congr_left fun i _=>?_
  show V.int _ = V.int _
  rw [Int.zero_add,Int.mul_one]
 refine (show Must _ _ from ⟨?_,⟨?_⟩⟩)
 ·have hb:small (((ws.map V.str).length:Nat):Int) = true:=by
   unfold small
   rw [List.length_map]
   simp
   omega
  show (((true && small 0) && small (((ws.map V.str).length:Nat):Int)) && _) = true
  rw [hb]; decide +kernel
 ·rw [e]
  exact law_loop hw _ (fun k z=>List.mem_range.mp z) h
end
section
variable {c:Cx} {A:Around} {sb s:Shared} {sf sf0:Stem} {E:PR} {env:Env} {K:Frag} {M:Model}
theorem arg_cons {e:EX} {r:List EX} {pos:Pos} {Q:List Value->Shared->Prop} (h0:isStar e = false) (h:wpAny M A (eval e env) (fun v s₁=>wpAny M A (spliced (backTo pos (starEach r env))) (fun vs s₂=>Q (v :: vs) s₂) E s₁) E s) :
 wpAny M A (spliced (backTo pos (starEach (e :: r) env))) Q E s:=by rw [star_cons h0]; exact spliced_cons h
theorem arg_nil {pos:Pos} {Q:List Value->Shared->Prop} (h:Q [] s):wpAny M A (spliced (backTo pos (starEach [] env))) Q E s:=spliced_nil h
theorem args_any {e:EX} {r:List EX} {pos:Pos} {f:Value} {Q:Args->Shared->Prop} (h0:isStar e = false) (h:wpAny M A (spliced (backTo pos (starEach (e :: r) env))) (fun vs s'=>Q ⟨vs,[]⟩ s') E s):wpAny M A (evalArgs f true (backTo pos (starEach (e :: r) env)) []) Q E s:=by
 rw [star_cons h0] at h ⊢
 exact evalArgs_plain h
theorem blt_call {n:Str} {f:Value} {p pos:Pos} {e:EX} {r:List EX} {Q:PR} (X:K.In s.heap) (hk:env.scope.kind = .function) (hx:glob env.scope n = true) (e0:nsIn K mainGlobals n = some none) (e1:nsIn K builtinsNs n = some (some f)) (hg:env.globals = mainGlobals) (hb:env.builtins = builtinsNs)
 (hf:keeperOf f = pure .machine) (hp:(backTo pos (starEach (e :: r) env)).any (·.1) = false) (h0:isStar e = false) (h:wpAny (MD c) A (spliced (backTo pos (starEach (e :: r) env))) (fun vs s₁=>wpAny (MD c) A (call f vs) Q E s₁) E s):wpAny (MD c) A (eval (.Call (.Name n p) (e :: r) [] pos) env) Q E s :=
 wpAny_Call_NameR (p_builtin X hk hx e0 e1 (callWith_machine hf hp (args_any h0 h)) hg hb)
theorem fn_call {n:Str} {f:Addr} {H:Heap} {p pos:Pos} {e:EX} {r:List EX} {Q:PR} (X:K.In s.heap) (hk:env.scope.kind = .function) (hx:glob env.scope n = true) (e1:nsIn K mainGlobals n = some (some (.ref f))) (ho:∃ o fd,H.get? f = some o /\ o.data = .func fd) (hg:env.globals = mainGlobals)
 (h0:isStar e = false) (h:wpAny (MD c) A (spliced (backTo pos (starEach (e :: r) env))) (fun vs s₁=>H.StaysIn s₁.heap /\ wpAny (MD c) A (call (.ref f) vs) Q E s₁) E s):wpAny (MD c) A (eval (.Call (.Name n p) (e :: r) [] pos) env) Q E s:=by
 obtain ⟨o,fd,ho,hd⟩:=ho
 exact wpAny_Call_NameR (p_glob X hk hx e1 (callWith_function (o:=o) (fd:=fd) (args_any h0 (wpAny_mono h (fun vs s₁ z=>⟨⟨z.1 _ _ ho,hd⟩,z.2⟩) fun _ _ z=>z))) hg)
theorem Mid.keep {h':Heap} {t:Nat} (M:Mid c A sb s sf) (hp:c.pos = false) (k:Step c.fs [] s.heap h'):Mid c A sb { s with heap:=h',toks:=t } sf :=
 ⟨M.sit.keep k (fun z=>by rw [hp] at z; cases z),M.to.trans (k.wide fun _ z=>nomatch z)⟩
theorem ints_of:∀ {vs:List Value},(∀ v ∈ vs,∃ n t,v = Value.int n t)->∃ ns:List Int,ns.length = vs.length /\ ∀ c h,VRs c h (ns.map .int) vs
 | [],_=>⟨[],rfl,fun _ _=>.nil⟩
 | v :: vs,h=>by
  obtain ⟨n,t,rfl⟩:=h v (.head _)
  obtain ⟨ns,e,r⟩:=ints_of fun v z=>h v (.tail _ z)
  exact ⟨n :: ns,congrArg (· + 1) e,fun c h=>.cons (.int n t) (r c h)⟩
theorem ints_at:∀ {vs:List Value} {ns:List Int},IntsAre vs ns->∀ v ∈ vs,∃ n t,v = Value.int n t
 | _,_,.nil,v,z=>nomatch z
 | _,_,.cons n t r,v,z=>(List.mem_cons.mp z).elim (fun e=>⟨n,t,e⟩) fun z=>ints_at r v z
theorem clip_nat (n k:Nat):clipAt n (k:Int) = min k n:=by
 unfold clipAt
 rw [if_neg (Int.not_lt.mpr (Int.natCast_nonneg k))]
 rcases Nat.le_total k n with h | h
 ·rw [Int.min_eq_left (Int.ofNat_le.mpr h),Int.max_eq_right (Int.natCast_nonneg k),Int.toNat_natCast,Nat.min_eq_left h]
 ·rw [Int.min_eq_right (Int.ofNat_le.mpr h),Int.max_eq_right (Int.natCast_nonneg n),Int.toNat_natCast,Nat.min_eq_right h]
theorem min4 (n k:Nat):min (k + 4) n - min k n <= 4:=by omega
theorem pick4 {items:Array Value} {j:Nat}:(slicePick items (some (0 + (j:Int) * 4)) (some (0 + (j:Int) * 4 + 4)) none).toList.length <= 4 /\ ∀ v ∈ (slicePick items (some (0 + (j:Int) * 4)) (some (0 + (j:Int) * 4 + 4)) none).toList,v ∈ items.toList:=by
 rw [slicePick_plain]
 refine ⟨Nat.le_trans (List.length_take_le _ _) ?_,fun v z=>List.mem_of_mem_drop (List.mem_of_mem_take z)⟩
 show clipAt items.size (0 + (j:Int) * 4 + 4) - clipAt items.size (0 + (j:Int) * 4) <= 4
 rw [Int.zero_add,show (j:Int) * 4 + 4 = ((j * 4 + 4:Nat):Int) from rfl,show (j:Int) * 4 = ((j * 4:Nat):Int) from rfl,clip_nat,clip_nat]
 exact min4 _ _
structure LawEnv (cenv:Env) (cs ce:Addr):Prop where
 hk:cenv.scope.kind = .function
 k:cenv.kindOf "k" = some .local
 S:cenv.kindOf "script" = some .cell
 E:cenv.kindOf "ends" = some .cell
 lS:cenv.cells.lookup ("script":Str) = some cs
 lE:cenv.cells.lookup ("ends":Str) = some ce
 g:glob cenv.scope "_law_word" = true
 gl:cenv.globals = mainGlobals
theorem new2 {h:Heap} {a b:Obj} (hb:b.isFreed = false):((h.push a).push b).get? (h.objs.size + 1) = some b:=by
 rw [<- Heap.size_push]
 exact Heap.get?_push_size _ hb
theorem word_turn {F:Fx} {es:List T} {vals:List Value} {ye:Value} {p1 p2 p3 p4 p5 p6 p7 p8 p9 p10:Pos} {cenv:Env} {n:Nat} {a cs ce:Addr} (X:Act F) (h1:F.C = tblAt 7) (hp:F.c.pos = false) (Y:LawEnv cenv cs ce) (Sb:Sit F.c F.A sb sf) (hcs:sb.heap.IsCell cs (some (.ref a))) (hce:sb.heap.IsCell ce (some ye))
 (ha:F.c.H0.IsList a vals.toArray) (hi:∀ v ∈ vals,∃ n t,v = Value.int n t) (hl:vals.length <= 63) (re:VR F.c sb.heap (.list (es.map .str)) ye) (e0:0 < es.length) (e1:∀ y ∈ es,y.length <= 20) :
 Turns F.c F.A sb n (fun j y=>∃ t,y = .int (0 + (j:Int) * 4) t) (fun _ t=>t.length <= 100) "k"
  (.Call (.Name "_law_word" p1) [.Subscript (.Name "script" p2) (.Slice (some (.Name "k" p3)) (some (.BinOp (.Name "k" p4) .Add (.Constant (.int 4) 0 p5) p6)) none p7) p8,.Name "ends" p9] [] p10) cenv:=by
 intro j y s' m sf' hj hy M hn hm ht
 obtain ⟨t,rfl⟩:=hy
 obtain ⟨f,hf1,hf2,run⟩:=X.T.fn .word
 refine fn_call (c:=F.c) (In.here X.X M.sit) Y.hk Y.g hf1 hf2 Y.gl rfl (arg_cons rfl (wpAny_Subscript_list_slice (wpAny_Name (wpAny_loadName_cell Y.hk Y.S Y.lS (cell_keep Sb hcs M.to) ?_) (by decide))))
 refine wpAny_Name (wpAny_loadName_local Y.hk Y.k hn hm ?_) (by decide)
 refine wpAny_BinOp (wpAny_Name (wpAny_loadName_local Y.hk Y.k hn hm (wpAny_Constant_int ?_)) (by decide))
 have M1:=M.keep (t:=s'.toks + 1) hp (Step.refl ..)
 refine p_bin (a:=.int (0 + (j:Int) * 4)) (b:=.int 4) (G:=fun v=>v = .int (0 + (j:Int) * 4 + 4)) M1.sit (.int _ _) (.int _ _) rfl fun v hv z h' tk st rz htk=>?_
 subst hv
 obtain ⟨u,rfl⟩:=rz.int_inv
 have M2:=M1.keep (t:=tk) hp st
 refine ⟨a,vals.toArray,_,_,rfl,isList_keep ha (M2.sit.base a),?_,.int _ _,.int _ _,?_⟩
 ·have:=lim_line
  rw [List.size_toArray]
  exact Nat.le_trans hl (Nat.le_trans (by decide) lim_line)
 have M3:=M2.keep (t:=tk) hp (Step.push F.c.fs [] _ { cls:=.type "slice",data:=.fields #[.int (0 + (j:Int) * 4) t,.int (0 + (j:Int) * 4 + 4) u,.none] })
 have M4:=M3.keep (t:=tk) hp (Step.push F.c.fs [] _ { cls:=.type "list",data:=.seq (slicePick vals.toArray (some (0 + (j:Int) * 4)) (some (0 + (j:Int) * 4 + 4)) none) })
 refine arg_cons rfl (wpAny_Name (wpAny_loadName_cell Y.hk Y.E Y.lE (cell_keep Sb hce M4.to) (arg_nil ⟨M4.sit.base,?_⟩)) (by decide))
 obtain ⟨q1,q2⟩:=pick4 (items:=vals.toArray) (j:=j)
 obtain ⟨ns,n1,n2⟩:=ints_of (vs:=(slicePick vals.toArray (some (0 + (j:Int) * 4)) (some (0 + (j:Int) * 4 + 4)) none).toList) fun v z=>hi v (q2 v z)
 have fr:=M3.sit.fresh
 rw [Heap.size_push] at fr
 have hu:F.C.fn .word [.list (ns.map .int),.list (es.map .str)] sf' (fun v _=>∃ w:T,v = .str w /\ w.length <= 100):=by
  rw [h1]
  exact (word_W (C:=tblAt 5) rfl e0 e1 (by rw [n1]; exact q1) fun w hw=>⟨w,rfl,hw⟩).ex
 refine run F.c.envs F.A _ sf' _ _ _ _ _ M4.sit X.room (.cons (.list fr (vals:=(slicePick vals.toArray (some (0 + (j:Int) * 4)) (some (0 + (j:Int) * 4 + 4)) none).toList) ⟨_,new2 rfl,rfl,_,rfl⟩ (by rw [List.length_map,n1]; exact Nat.le_trans q1 (by decide)) (n2 _ _)) (.cons (re.step M4.to fun _ z=>z) .nil)) hu fun v s2 y t2 hv S2 st2 r2=>?_
 obtain ⟨w,rfl,hw⟩:=hv
 obtain ⟨k2,rfl,hl2⟩:=r2.str_inv
 exact ⟨w,k2,s2,rfl,hl2,hw,S2,(Step.trans (st.trans ((Step.push ..).trans (Step.push ..))) (Step.refl ..)).wide (fun _ z=>nomatch z) |>.trans st2⟩
end
noncomputable def lawC1:Scope:={ kind:=.function,names:=[(".0",.local),("k",.local),("_law_word",.globalImplicit),("ends",.free),("script",.free)],isGenerator:=false,isCoroutine:=false,more:=[] }
noncomputable def lawC2:Scope:={ kind:=.function,names:=[(".0",.local),("word",.local),("_law_stem",.globalImplicit)],isGenerator:=false,isCoroutine:=false,more:=[] }
noncomputable def law2:Stmt:=.Assign [(.Name "words" ⟨1155,4,1155,9⟩)] (.BinOp (.ListComp (.Call (.Name "_law_word" ⟨1155,13,1155,22⟩) [(.Subscript (.Name "script" ⟨1155,23,1155,29⟩) (.Slice (some (.Name "k" ⟨1155,30,1155,31⟩)) (some (.BinOp (.Name "k" ⟨1155,32,1155,33⟩) .Add (.Constant (.int 4) 0 ⟨1155,36,1155,37⟩) ⟨1155,32,1155,37⟩)) none ⟨1155,30,1155,37⟩) ⟨1155,23,1155,38⟩),(.Name "ends" ⟨1155,40,1155,44⟩)] [] ⟨1155,13,1155,45⟩) [⟨.Name "k" ⟨1155,50,1155,51⟩,.Call (.Name "range" ⟨1155,55,1155,60⟩) [(.Constant (.int 0) 0 ⟨1155,61,1155,62⟩),(.Call (.Name "min" ⟨1155,64,1155,67⟩) [(.Call (.Name "len" ⟨1155,68,1155,71⟩) [(.Name "script" ⟨1155,72,1155,78⟩)] [] ⟨1155,68,1155,79⟩),(.Constant (.int 8) 0 ⟨1155,81,1155,82⟩)] [] ⟨1155,64,1155,83⟩),(.Constant (.int 4) 0 ⟨1155,85,1155,86⟩)] [] ⟨1155,55,1155,87⟩,[],0⟩] lawC1 ⟨1155,12,1155,88⟩) .Add (.List [(.Constant (.str "") 0 ⟨1155,92,1155,94⟩)] ⟨1155,91,1155,95⟩) ⟨1155,12,1155,95⟩) ⟨1155,4,1155,95⟩
noncomputable def law3:Stmt:=.Assign [(.Name "due" ⟨1156,4,1156,7⟩)] (.ListComp (.Call (.Name "_law_stem" ⟨1156,11,1156,20⟩) [(.Name "word" ⟨1156,21,1156,25⟩)] [] ⟨1156,11,1156,26⟩) [⟨.Name "word" ⟨1156,31,1156,35⟩,.Name "words" ⟨1156,39,1156,44⟩,[],0⟩] lawC2 ⟨1156,10,1156,45⟩) ⟨1156,4,1156,45⟩
theorem range4 (k:Nat) (h:k <= 8):Builtin.Range.small 0 k 4 = true /\ ∃ n:Nat,n <= 2 /\ Builtin.Range.rangeSize 0 k 4 = n:=by
 have z:∀ k:Fin 9,Builtin.Range.small 0 k.val 4 = true /\ Builtin.Range.rangeSize 0 k.val 4 = ((k.val + 3) / 4:Nat):=by decide +kernel
 obtain ⟨z1,z2⟩:=z ⟨k,by lia⟩
 exact ⟨z1,(k + 3) / 4,by lia,z2⟩
section
variable {c:Cx} {A:Around} {sb s:Shared} {sf sf0:Stem} {E:PR} {F:Fx} {outer:List Env} {m:SV} {l:Lc}
theorem law_env {cs ce C:Addr} (h2:F.sc = scS lawS):LawEnv (compEnvC lawC1 [(("script":Str),cs),(("ends":Str),ce)] C F.env) cs ce :=
 fx_sc (P:=fun e=>e.globals = mainGlobals->LawEnv (compEnvC lawC1 [(("script":Str),cs),(("ends":Str),ce)] C e) cs ce) h2 (fun _ _ _ _ _ g=>⟨rfl,by kernel_rfl,by kernel_rfl,by kernel_rfl,by kernel_rfl,by kernel_rfl,by kernel_rfl,g⟩) rfl
theorem law_words {es:List T} {vals:List Value} {ye:Value} {a cs ce:Addr} {Q:FS} (X:ActS F labC outer) (h1:F.C = tblAt 7) (h2:F.sc = scS lawS) (h3:F.cs = [(("ends":Str),ce),(("script":Str),cs)]) (hp:F.c.pos = false) (S2:F.St s m l sf)
 (hcs:s.heap.IsCell cs (some (.ref a))) (hce:s.heap.IsCell ce (some ye)) (ha:F.c.H0.IsList a vals.toArray) (hi:∀ v ∈ vals,∃ n t,v = Value.int n t) (hl:vals.length <= 63) (re:VR F.c s.heap (.list (es.map .str)) ye) (e0:0 < es.length) (e1:∀ y ∈ es,y.length <= 20)
 (h:∀ (ws:List T) s' m' sf',F.Go s s' m' (l.set 2 (some (.list (ws.map .str)))) sf'->0 < ws.length->ws.length <= 3->(∀ w ∈ ws,w.length <= 100)->Q .next s'):wpAny F.M F.A (exec law2 F.env) Q E s:=by
 unfold law2
 have gl:∀ {x:Str},glob (scS lawS) x = true->glob F.env.scope x = true:=fun h=>by show glob F.sc _ = true; rw [h2]; exact h
 have hcl:closureFor lawC1 F.env = pure [(("script":Str),cs),(("ends":Str),ce)]:=fx_cs (P:=fun e=>closureFor lawC1 e = pure [(("script":Str),cs),(("ends":Str),ce)]) h3 fun _ _ _ _ _=>rfl
 refine wpAny_Assign_Name (wpAny_BinOp (comp_eval (c:=F.c) ⟨hcl,by decide +kernel,rfl,by decide +kernel,rfl⟩ S2.toSit (fun _=>rfl) ?_))
 refine blt_call (c:=F.c) (In.here X.X S2.toSit) X.hk (gl (by kernel_rfl)) X.O.range.1 X.O.range.2 rfl rfl rfl rfl rfl (arg_cons rfl (wpAny_Constant_int (arg_cons rfl ?_)))
 have M0:Mid F.c F.A s s sf:=⟨S2.toSit,Step.refl ..⟩
 have M1:=M0.keep (t:=s.toks + 1) hp (Step.refl ..)
 refine blt_call (c:=F.c) (In.here X.X M1.sit) X.hk (gl (by kernel_rfl)) X.O.min.1 X.O.min.2 rfl rfl rfl rfl rfl (arg_cons rfl ?_)
 refine blt_call (c:=F.c) (In.here X.X M1.sit) X.hk (gl (by kernel_rfl)) X.O.len.1 X.O.len.2 rfl rfl rfl rfl rfl (arg_cons rfl (wpAny_Name (wpAny_loadName_cell (c:=cs) X.hk (show F.sc.names.lookup _ = _ by rw [h2]; kernel_rfl) (show F.cs.lookup _ = _ by rw [h3]; rfl) (cell_keep M0.sit hcs M1.to) (arg_nil ?_)) (by decide)))
 have hsz:vals.toArray.size = vals.length:=List.size_toArray
 refine call_len_list (isList_keep ha (M1.sit.base a)) (by rw [hsz]; lia) ?_
 rw [hsz]
 refine arg_cons rfl (wpAny_Constant_int (arg_nil ?_))
 refine p_min hp (a:=.int vals.length) (b:=.int 8) (G:=fun v=>v = .int (if (8:Int) < vals.length then 8 else vals.length)) (M1.keep (t:=_) hp (Step.refl ..)).sit (.int _ _) (.int _ _) rfl fun v hv z h' tk st rz htk=>?_
 subst hv
 obtain ⟨u,rfl⟩:=rz.int_inv
 have M3:=M1.keep (t:=tk) hp st
 obtain ⟨k,hk,ek⟩:∃ k:Nat,k <= 8 /\ (if (8:Int) < vals.length then 8 else (vals.length:Int)) = k:=by
  by_cases q:(8:Int) < vals.length
  ·exact ⟨8,Nat.le_refl _,by rw [if_pos q]; rfl⟩
  ·exact ⟨vals.length,by lia,by rw [if_neg q]⟩
 rw [ek]
 refine arg_cons rfl (wpAny_Constant_int (arg_nil ?_))
 obtain ⟨r1,n,hn,r2⟩:=range4 k hk
 have M4:=(M3.keep (t:=tk + 1) hp (Step.refl ..)).keep (t:=tk + 1) hp (Step.push F.c.fs [] h' { cls:=.type "range",data:=.fields #[.int 0 s.toks,.int k u,.int 4 tk] })
 refine call_range_3 (by decide) ?_ (.inl (PyProof.noPylong_small (by lia)))
 refine wpAny_pyIter_range (IsRange.new _ _ _ _ _ _ _) r1 ?_
 have I0:=M4.gone (Heap.get?_none_of_le (Nat.le_refl _))
 have fr:=M4.sit.fresh
 rw [r2]
 have W:=Walks.range (prog:=PG) (w:=F.c.w) M4.sit.hd (h'.push { cls:=.type "range",data:=.fields #[.int 0 s.toks,.int k u,.int 4 tk] }).objs.size 0 4 n
 refine ⟨_,n,fun _ t=>t.length <= 100,rfl,⟨⟨_,_,_,sf,⟨W,I0,Nat.le_trans hn (by decide),hp,fun b hb=>?_⟩,?_,fun b hb=>?_,M4.keep hp (Step.push ..),fun C hC=>?_⟩,?_⟩,fun D s3 sf3 rs ys hD H=>?_⟩
 ·rw [List.mem_singleton.mp hb]; exact ⟨fun z=>fr (.inl z),fun z=>fr (.inr z)⟩
 ·show IsRangeIter _ _ (0 + ((0:Nat):Int) * 4) ((n:Int) - ((0:Nat):Int)) 4
  rw [show (0:Int) + ((0:Nat):Int) * 4 = 0 by lia,show (n:Int) - ((0:Nat):Int) = n by lia]
  exact Heap.get?_push_size _ rfl
 ·rw [List.mem_singleton.mp hb,Heap.size_push _ { cls:=.type "range_iterator",data:=_ }]; exact Nat.lt_succ_self _
 ·refine word_turn X.toAct h1 hp (law_env h2) S2.toSit hcs hce ha hi hl re e0 e1
 ·rw [Heap.size_push _ { cls:=.type "range_iterator",data:=_ }]; exact Nat.lt_succ_self _
 have T3:=back (.refl S2) H.sit H.to
 refine ((sndAll X.toAct).1 (.list (.cons (.con (.str [])) .nil))).1 _ (by kernel_rfl) _ _ _ sf3 (fun v s=>v = .list [.str []] /\ s = sf3) _ _ T3.st ⟨rfl,rfl⟩ fun v sf4 y s4 hv T4 r4=>?_
 obtain ⟨rfl,rfl⟩:=hv
 have T34:=T3.trans T4
 have hrs:rs.length <= 2:=by rw [H.len]; exact hn
 refine p_bin (G:=fun v=>v = .list ((rs ++ [[]]).map .str)) T4.st.toSit (T4.up (H.vr S2.toSit hD (Nat.le_trans hn (by decide)))) r4 (show Must _ _ from ⟨decide_eq_true (by rw [List.length_map]; exact Nat.le_trans (Nat.add_le_add_right hrs _) (by decide)),by rw [List.map_append]; rfl⟩) fun v hv z h5 t5 st5 r5 ht5=>?_
 subst hv
 refine p_store (i:=2) X.toAct (T4.st.keep st5 ht5) (show isLoc F.sc 2 _ = true by rw [h2]; kernel_rfl) r5 fun s6 G6=>?_
 refine h (rs ++ [[]]) s6 _ _ (T34.go.after ((Fx.To.keep T4.st st5 ht5).go.after G6)) ?_ ?_ fun w hw=>?_
 ·rw [List.length_append]; exact Nat.succ_pos _
 ·rw [List.length_append]; exact Nat.succ_le_succ hrs
 ·rcases List.mem_append.mp hw with q | q
  ·obtain ⟨j,hj⟩:=List.getElem?_of_mem q
   exact H.rel j w hj
  ·rw [List.mem_singleton.mp q]; exact Nat.zero_le _
end
section
variable {c:Cx} {A:Around} {sb s:Shared} {sf sf0:Stem} {E:PR} {F:Fx} {outer:List Env} {m:SV} {l:Lc}
theorem LR.set {h h':Heap} {sc:Scope} {fs ds:List Addr} {i:Nat} {n:Str} {v:V} {y:Value} (x:LR c h sc m l) (k:Step fs ds h h') (hm:∀ a,a ∈ fs \/ a ∈ ds->c.mut a) (e:(locsOf sc)[i]? = some n) (hu:(locsOf sc).Nodup) (r:VR c h' v y):LR c h' sc (fun z=>if z = n then some y else m z) (l.set i (some v)):=by
 refine ⟨by rw [List.length_set]; exact x.1,fun j n' ej v' hv=>?_⟩
 by_cases q:j = i
 ·subst q
  rw [e] at ej; cases ej
  have hlt:j < l.length:=by rw [x.1]; exact (List.getElem?_eq_some_iff.mp e).1
  rw [List.getElem?_set_self hlt] at hv
  cases hv
  exact ⟨y,if_pos rfl,r⟩
 ·rw [List.getElem?_set_ne (Ne.symm q)] at hv
  obtain ⟨u,h1,h2⟩:=x.2 j n' ej v' hv
  exact ⟨u,(if_neg fun z=>q (nodup_at hu (z ▸ ej) e)).trans h1,h2.step k hm⟩
theorem comp_store {elt iter:EX} {x y:Str} {px py pos spos:Pos} {scope:Scope} {cl:List (Str × Addr)} {i:Nat} {Q:FS} (X:ActS F labC outer) (Y:CompSc scope cl x F.env) (hp:F.c.pos = false) (S2:F.St sb m l sf0) (hi:isLoc F.sc i y = true)
 (hsw:swapsWith (.ListComp elt [⟨.Name x px,iter,[],0⟩] scope pos) (some (.Name y py)) spos.line F.env = pure true) (hf:∀ x,foldedSetIterable iter F.env x = pure x)
 (h:wpAny F.M F.A (eval iter F.env) (fun xv s₁=>wpAny F.M F.A (pyIter xv) (fun it s₂=>∃ I n Rel,it = .ref I /\ Iter F.c F.A F.env sb x elt scope cl I n Rel s₂ /\ n <= lim /\ ∀ (rs:List T) s' m' sf',rs.length = n->(∀ (j:Nat) t,rs[j]? = some t->Rel j t)->F.Go sb s' m' (l.set i (some (.list (rs.map .str)))) sf'->Q .next s') E s₁) E sb) :
 wpAny F.M F.A (exec (.Assign [.Name y py] (.ListComp elt [⟨.Name x px,iter,[],0⟩] scope pos) spos) F.env) Q E sb:=by
 rw [exec_Assign_Name_used _ _ _ _ hsw]
 refine wpAny_bind (wpAny_standAt (wpAny_bind ?_))
 show wpAny _ F.A (do let _ <- comprehension (.ListComp elt [⟨.Name x px,iter,[],0⟩] scope pos) scope F.env _ (newList []) false (eval iter F.env) (some (assign (.Name y py) F.env))) _ _ sb
 refine wpAny_bind (wpAny_mono (wpAny_comprehension_free (use:=some (assign (.Name y py) F.env)) (Q:=fun _ s'=>Q .next s') rfl hf Y.clos Y.kind Y.names
  (wpAny_mono h (fun xv s₁ h₁=>wpAny_mono h₁ (fun it s₂ h₂=>?_) fun _ _ e=>e) fun _ _ e=>e)) (fun _ s' hq=>wpAny_pure (wpAny_pure hq)) fun _ _ e=>e)
 obtain ⟨I,n,Rel,rfl,⟨⟨G,fp,Wt,sf,hIt,w0,hfp,M,ht⟩,hI⟩,hnl,hQ⟩:=h₂
 refine comp_block (c:=F.c) (RR:=fun acc C=>compPost F.M F.A E (some (assign (.Name y py) F.env)) (fun _ s'=>Q .next s') acc C) hIt S2.toSit Y.cell Y.kind Y.hx hfp hI ht M w0 fun D C s' sf m' rs ys hD hC hDC H hn=>?_
 have T:=back (.refl S2) H.sit H.to
 have hv:=H.vr S2.toSit hD hnl
 have nC:=S2.toSit.not_mut hC
 have LC:F.L ≠ C:=fun z=>by
  obtain ⟨o,_,_,ho,_⟩:=S2.ns
  rw [<- z,ho] at hC; cases hC
 show wpAny _ F.A (assign (.Name y py) F.env (.ref D)) _ _ _
 refine wpAny_assign_Name (p_store X.toAct T.st hi hv fun s4 G4=>⟨m',ns_up hn fun o e=>G4.to.up e fun z=>(List.mem_cons.mp z).elim (fun z=>LC z.symm) nC.2,fun h' hs'=>?_⟩)
 have kC:∀ b o,b ∉ [C]->s4.heap.get? b = some o->h'.get? b = some o:=fun b o z e=>hs'.extBut b o (fun q=>z (by rw [q]; exact .head _)) e
 have XC:∀ b ∈ [C],sb.heap.get? b = none:=fun b z=>by rw [List.mem_singleton.mp z]; exact hC
 have st:Step F.c.fs (F.L :: F.c.ds) sb.heap h':=(T.go.to.trans G4.to).but XC kC
 have hv':VR F.c h' (.list (rs.map .str)) (.ref D):=by
  obtain ⟨a,vals,e,_,i1,hl,q⟩:=hv.list_inv
  cases e
  have hl':h'.IsList D vals.toArray:=isList_keep i1 fun o e=>hs'.extBut _ o hDC (G4.to.same _ o e (S2.toSit.not_mut hD).1 fun z=>(List.mem_cons.mp z).elim (fun z=>by
   obtain ⟨o,_,_,ho,_⟩:=S2.ns
   rw [<- z,hD] at ho; cases ho) (S2.toSit.not_mut hD).2)
  have s1:=strs_of q
  exact .list (fun z=>z.elim (S2.toSit.not_mut hD).1 (S2.toSit.not_mut hD).2) hl' hl (strs_vrs rs vals s1.1 s1.2)
 exact hQ rs _ _ _ H.len H.rel ⟨⟨S2.toSit.but G4.st.toSit hp XC kC,G4.st.ns.sameBut hs' LC,S2.inL,S2.loc.set st (Go.mut S2) (loc_spec hi).2.2 X.hu hv'⟩,st⟩
theorem stem_turn {vals:List Value} {ws:List T} {p1 p2 p3:Pos} {cenv:Env} {n:Nat} (X:Act F) (h1:F.C = tblAt 7) (hs:Strs ws vals) (hw:∀ w ∈ ws,w.length <= 100) (hk:cenv.scope.kind = .function) (hl:cenv.kindOf "word" = some .local) (hg:glob cenv.scope "_law_stem" = true) (hgl:cenv.globals = mainGlobals) :
 Turns F.c F.A sb n (fun j y=>vals[j]? = some y) (fun j t=>∃ w,ws[j]? = some w /\ t = stemS w) "word" (.Call (.Name "_law_stem" p1) [.Name "word" p2] [] p3) cenv:=by
 intro j y s' m sf' hj hy M hn hm ht
 obtain ⟨k,w,hw1,rfl,hlen⟩:=hs.2 j y hy
 obtain ⟨f,hf1,hf2,run⟩:=X.T.fn .stem
 refine fn_call (c:=F.c) (In.here X.X M.sit) hk hg hf1 hf2 hgl rfl (arg_cons rfl (wpAny_Name (wpAny_loadName_local hk hl hn hm (arg_nil ⟨M.sit.base,?_⟩)) (by decide)))
 have hu:F.C.fn .stem [.str w] sf' (fun v _=>v = .str (stemS w)):=by
  rw [h1]
  exact (stem_W (C:=tblAt 2) rfl rfl (hw w (List.mem_of_getElem? hw1)) rfl).ex
 refine run F.c.envs F.A s' sf' _ _ _ _ _ M.sit X.room (.cons (.str w k hlen) .nil) hu fun v s2 y t2 hv S2 st2 r2=>?_
 subst hv
 obtain ⟨k2,rfl,hl2⟩:=r2.str_inv
 exact ⟨_,k2,s2,rfl,hl2,⟨w,hw1,rfl⟩,S2,st2⟩
theorem law_due {ws:List T} {Q:FS} (X:ActS F labC outer) (h1:F.C = tblAt 7) (h2:F.sc = scS lawS) (hp:F.c.pos = false) (S2:F.St s m l sf) (hl:l[2]?.join = some (.list (ws.map .str))) (hw:∀ w ∈ ws,w.length <= 100)
 (h:∀ s' m' sf',F.Go s s' m' (l.set 3 (some (.list ((ws.map stemS).map .str)))) sf'->Q .next s'):wpAny F.M F.A (exec law3 F.env) Q E s:=by
 unfold law3
 have il:∀ {i:Nat} {x:Str},isLoc (scS lawS) i x = true->isLoc F.sc i x = true:=fun h=>by rw [h2]; exact h
 refine comp_store X (cl:=[]) ⟨closureFor_none (by decide +kernel),by decide +kernel,rfl,by decide +kernel,rfl⟩ hp S2 (i:=3) (il (by kernel_rfl)) ?_ (fun _=>rfl) (p_loc S2 X.hk (i:=2) (il (by kernel_rfl)) hl fun y _ ry=>?_)
 ·exact fx_sc (P:=fun e=>swapsWith _ _ _ e = pure true) h2 fun _ _ _ _ _=>by kernel_rfl
 obtain ⟨a,vals,rfl,hm,i1,hl,rs⟩:=ry.list_inv
 have hlen:=rs.len
 rw [List.length_map] at hlen hl
 refine iter_list (Rel:=fun j t=>∃ w,ws[j]? = some w /\ t = stemS w) S2.toSit hp hm i1 (by rw [hlen]; exact hl) (fun C _=>?_) fun I s₂ Y=>⟨I,_,_,rfl,Y,by rw [hlen]; exact hl,fun rs s' m' sf' e1 e2 G=>?_⟩
 ·exact stem_turn X.toAct h1 (strs_of rs) hw rfl (by kernel_rfl) (by kernel_rfl) rfl
 ·cases map_of (f:=stemS) (e1.trans hlen) e2
  exact h s' m' sf' G
end
noncomputable def law0:Stmt:=.Assign [(.Name "stemmer" ⟨1153,4,1153,11⟩)] (.Call (.Name "FrenchStemmer" ⟨1153,14,1153,27⟩) [] [] ⟨1153,14,1153,29⟩) ⟨1153,4,1153,29⟩
noncomputable def law1:Stmt:=.Assign [(.Name "ends" ⟨1154,4,1154,8⟩)] (.Call (.Name "_law_ends" ⟨1154,11,1154,20⟩) [] [] ⟨1154,11,1154,22⟩) ⟨1154,4,1154,22⟩
noncomputable def law4:Stmt:=.If (.Compare (.Call (.Attribute (.Name "stemmer" ⟨1157,7,1157,14⟩) "stemWords" ⟨1157,7,1157,24⟩) [(.Name "words" ⟨1157,25,1157,30⟩)] [] ⟨1157,7,1157,31⟩) [.NotEq] [(.Name "due" ⟨1157,35,1157,38⟩)] ⟨1157,7,1157,38⟩) [.Return (some (.Constant (.bool false) 0 ⟨1158,15,1158,20⟩)) ⟨1158,8,1158,20⟩] [] ⟨1157,4,1158,20⟩
noncomputable def law6:Stmt:=.Return (some (.Compare (.Call (.Attribute (.Call (.Name "FrenchStemmer" ⟨1163,11,1163,24⟩) [] [] ⟨1163,11,1163,26⟩) "stemWord" ⟨1163,11,1163,35⟩) [(.Subscript (.Name "words" ⟨1163,36,1163,41⟩) (.Constant (.int 0) 0 ⟨1163,42,1163,43⟩) ⟨1163,36,1163,44⟩)] [] ⟨1163,11,1163,45⟩) [.Eq] [(.Subscript (.Name "due" ⟨1163,49,1163,52⟩) (.Constant (.int 0) 0 ⟨1163,53,1163,54⟩) ⟨1163,49,1163,55⟩)] ⟨1163,11,1163,55⟩)) ⟨1163,4,1163,55⟩
theorem law_body:bdS lawS = [law0,law1,law2,law3,law4,lawN,law6]:=by kernel_rfl
theorem base_call {id:Str} {p q:Pos} {n:Str} {env:Env} (h:(id != "super") = true):attributeBase (.Call (.Name id p) [] [] q) n env (eval (.Call (.Name id p) [] [] q) env) = eval (.Call (.Name id p) [] [] q) env:=by
 unfold attributeBase
 dsimp only
 rw [h]
 simp
section
variable {c c':Cx} {A:Around} {sb s:Shared} {sf sf0:Stem} {E:PR} {F:Fx} {outer:List Env} {m:SV} {l:Lc} {w:World} {S:Sets} {ws:List T}
theorem vr_strs {h h':Heap} {ts:List T} {y:Value} (r:VR c h (.list (ts.map .str)) y) (k:∀ a,¬ c.mut a->(∃ o,h.get? a = some o)->¬ c'.mut a) (kk:∀ a o,¬ c.mut a->h.get? a = some o->(∃ xs n,o.data = .seq xs n)->h'.get? a = some o):VR c' h' (.list (ts.map .str)) y:=by
 obtain ⟨a,vals,rfl,hm,⟨o,ho,hc,n,hd⟩,hl,q⟩:=r.list_inv
 have s1:=strs_of q
 exact .list (k a hm ⟨o,ho⟩) ⟨o,kk a o hm ho ⟨_,_,hd⟩,hc,n,hd⟩ hl (strs_vrs ts vals s1.1 s1.2)
theorem lr_five {h:Heap} {sc:Scope} {a0 a1 a2 a3 a4:Option V} {n0 n1 n2 n3 n4:Str} (e:locsOf sc = [n0,n1,n2,n3,n4]) (h0:∀ v,a0 = some v->∃ y,m n0 = some y /\ VR c h v y) (h1:∀ v,a1 = some v->∃ y,m n1 = some y /\ VR c h v y) (h2:∀ v,a2 = some v->∃ y,m n2 = some y /\ VR c h v y)
 (h3:∀ v,a3 = some v->∃ y,m n3 = some y /\ VR c h v y) (h4:∀ v,a4 = some v->∃ y,m n4 = some y /\ VR c h v y):LR c h sc m [a0,a1,a2,a3,a4]:=by
 refine ⟨by rw [e]; rfl,fun i n q v hv=>?_⟩
 rw [e] at q
 rcases i with _ | _ | _ | _ | _ | i
 ·cases q; exact h0 v hv
 ·cases q; exact h1 v hv
 ·cases q; exact h2 v hv
 ·cases q; exact h3 v hv
 ·cases q; exact h4 v hv
 ·cases q
theorem law_locs:locsOf (scS lawS) = [("stemmer":Str),"k","words","due","at"]:=by kernel_rfl
theorem law_il (h2:F.sc = scS lawS) {i:Nat} {x:Str} (h:isLoc (scS lawS) i x = true):isLoc F.sc i x = true:=by rw [h2]; exact h
theorem law_if {x d:Addr} {Q:FS} {lx ly:Option V} (X:ActS F labC outer) (e:Env0 w S F.c) (D:Dicts F.c) (h2:F.sc = scS lawS) (hK:F.K = KS w S) (hp:F.c.pos = false) (hx:F.c.slf = some (x,d)) (hroom:F.A.depth <= 800) (hu:F.A.units < cLine)
 (hw:∀ w ∈ ws,w.length <= 100) (S2:F.St s m (lawL ws lx ly) sf) (h:∀ s' sf',F.To s m (lawL ws lx ly) s' sf'->Q .next s'):wpAny F.M F.A (exec law4 F.env) Q E s:=by
 unfold law4
 obtain ⟨_,_,_,_,_,h6,mA,h7,hF⟩:=S2.slf.at_ x d hx
 have hf:=e.FC
 have ho:=e.X.K _ _ (words_at (w:=w))
 have hd:=(fd_data (q:="BaseStemmer.stemWords") (md:=mdOf 0) (cd:=194 - 1) (and_inv words_plain).1).1
 refine wpAny_If (wpAny_isTrue_Compare1 (p_meth (K:=F.K) (f:=194) X.O (by rw [hf,hK]; kernel_rfl) (by rw [hK]; kernel_rfl) rfl rfl rfl (p_loc S2 X.hk (i:=0) (law_il h2 (by kernel_rfl)) rfl fun y _ ry=>?_)) rfl)
 cases ry with
 | self hx' =>
  rw [hx] at hx'; cases hx'
  refine ⟨x,d,mA,rfl,In.here X.X S2.toSit,h6,h7.ns,hF.only _ fun f z=>?_,callWith_function (o:=_) (fd:=_) (args_any rfl (arg_cons rfl (p_loc S2 X.hk (i:=2) (law_il h2 (by kernel_rfl)) rfl fun y _ ry=>arg_nil ⟨⟨S2.base _ _ ho,hd⟩,?_⟩)))⟩
  ·cases f <;> exact absurd z (by decide)
  refine call_words e hp D S2.toSit hroom hx hw ry fun y s3 sf3 S3 st3 r3=>?_
  have T3:=back (.refl S2) S3 st3
  refine p_loc T3.st X.hk (i:=3) (law_il h2 (by kernel_rfl)) rfl fun z _ rz=>?_
  exact ne_same r3 rz hu (wpAny_truthy_bool (wpAny_execs_nil (h s3 sf3 T3)))
theorem law_last {Q:FS} {lx ly:Option V} (X:ActS F labC outer) (X3:∀ p,ActS (F.wi (some p)) labC outer) (e:Env0 w S F.c) (h1:F.C = tblAt 7) (h2:F.sc = scS lawS) (hK:F.K = KS w S) (hp:F.c.pos = false) (hroom:F.A.depth <= 800)
 (hw:∀ w ∈ ws,w.length <= 100) (h0:0 < ws.length) (S2:F.St s m (lawL ws lx ly) sf) (h:∀ s' p sf',Sit (F.c.wi (some p)) F.A s' sf'->Q (.ret (.bool true)) s'):wpAny F.M F.A (exec law6 F.env) Q E s:=by
 unfold law6
 obtain ⟨f,hf1,hf2,⟨o,fd,ho,hd⟩,_⟩:=X.T.mt .stemWord
 obtain ⟨w0,r,rfl⟩:∃ w0 r,ws = w0 :: r:=match ws,h0 with | w0 :: r,_=>⟨w0,r,rfl⟩
 obtain ⟨y2,m2,r2⟩:=S2.get (i:=2) (n:="words") (loc_spec (law_il h2 (x:="words") (by kernel_rfl))).2.2 rfl
 obtain ⟨y3,m3,r3⟩:=S2.get (i:=3) (n:="due") (loc_spec (law_il h2 (x:="due") (by kernel_rfl))).2.2 rfl
 have hcls:=X.T.cls.1
 rw [e.FC] at hcls
 refine wpAny_Return_some (wpAny_Compare1 (p_meth (K:=F.K) X.O hf1 hf2 rfl rfl (base_call (by decide)) (wpAny_Call_NameR (p_glob (In.here X.X S2.toSit) X.hk (show glob F.sc _ = true by rw [h2]; kernel_rfl) hcls ?_))) rfl)
 refine callWith_K0 (K:=F.K) (In.here X.X S2.toSit) (by rw [hK]; kernel_rfl) (make_stemmer e S2.toSit hp (Nat.le_trans hroom (by decide)) fun x d s3 gx gd S3 st3=>?_)
 have Y:=X3 (x,d)
 obtain ⟨_,_,_,_,_,h6,mA,h7,hF⟩:=S3.slf.at_ x d rfl
 have ne:∀ {a:Addr},¬ F.c.mut a->(∃ o,s.heap.get? a = some o)->¬ Cx.mut (F.c.wi (some (x,d))) a:=fun hm he z=>z.elim (fun z=>hm (.inl z)) fun z=>by
  obtain ⟨o,ho⟩:=he
  rw [List.mem_singleton.mp (show _ ∈ [d] from z),gd] at ho
  cases ho
 have mv:∀ {ts:List T} {y:Value},VR F.c s.heap (.list (ts.map .str)) y->VR (F.c.wi (some (x,d))) s3.heap (.list (ts.map .str)) y:=fun r=>vr_strs r (fun a=>ne) fun a o hm ho _=>st3.same a o ho (fun z=>hm (.inl z)) fun z=>nomatch z
 have T3:(F.wi (some (x,d))).St s3 m [none,none,some (.list ((w0 :: r).map .str)),some (.list (((w0 :: r).map stemS).map .str)),none] fr0:=by
  exact ⟨S3,ns_up S2.ns (fun o e=>st3.up e fun z=>nomatch z),S2.inL,lr_five (by show locsOf F.sc = _; rw [h2,law_locs]) (fun v z=>nomatch z) (fun v z=>nomatch z) (fun v z=>by cases z; exact ⟨y2,m2,mv r2⟩) (fun v z=>by cases z; exact ⟨y3,m3,mv r3⟩) fun v z=>nomatch z⟩
 refine ⟨x,d,mA,rfl,In.here Y.X S3,h6,h7.ns,hF.only _ fun g z=>mnm_fld .stemWord g z,callWith_function (o:=o) (fd:=fd) (args_any rfl (arg_cons rfl ?_))⟩
 refine ((sndAll Y.toAct).1 (.idx (.loc 2) (cI 0))).1 _ (show chkE F.sc _ _ = true by rw [h2]; kernel_rfl) m _ s3 fr0 (fun v _=>v = .str w0) _ _ T3 ⟨_,rfl,rfl⟩ fun v sf4 y4 s4 hv T4 r4=>arg_nil ⟨⟨T4.st.base _ _ ho,hd⟩,?_⟩
 subst hv
 obtain ⟨f',g1,g2,_,run⟩:=Y.T.mt .stemWord
 have hff:f' = f:=by
  have:=g1.symm.trans (show findIn F.K _ _ = _ from hf1)
  cases this; rfl
 subst hff
 have hu:slfRun (F.C.mt .stemWord) [.self,.str w0] sf4 (fun v _=>v = .str (stemS w0)):=by
  rw [h1]
  exact (stemWord_W (C:=tblAt 1) rfl rfl (hw w0 (.head _)) fun _ _=>rfl).ex
 refine run F.c.envs F.A s4 sf4 _ _ _ _ _ T4.st.toSit Y.room (.cons (.self rfl) (.cons r4 .nil)) hu fun v sf5 y5 s5 hv S5 st5 r5=>?_
 subst hv
 have T5:=back T4 S5 st5
 refine ((sndAll Y.toAct).1 (.idx (.loc 3) (cI 0))).1 _ (show chkE F.sc _ _ = true by rw [h2]; kernel_rfl) m _ s5 sf5 (fun v _=>v = .str (stemS w0)) _ _ T5.st ⟨_,rfl,rfl⟩ fun v sf6 y6 s6 hv T6 r6=>?_
 subst hv
 refine p_cmp (c:=F.c.wi (some (x,d))) (a:=.str (stemS w0)) (b:=.str (stemS w0)) (G:=fun b=>b = true) T6.st.toSit (T6.up r5) r6 (decide_eq_true rfl) fun b hb t ht=>?_
 subst hb
 exact h _ (x,d) sf6 (T6.st.toSit.keep (h':=s6.heap) (Step.refl ..) ht)
end
section
variable {c:Cx} {A:Around} {s:Shared} {sf:Stem} {E:PR} {F:Fx} {outer:List Env} {m:SV} {w:World} {S:Sets}
theorem Sit.cell {a:Addr} {v:Option Value} {h':Heap} (S:Sit c A s sf) (hc:s.heap.IsCell a v) (h0:c.H0.get? a = none) (k:Heap.SameBut a s.heap h') (hp:c.pos = false):Sit c A { s with heap:=h' } sf:=by
 obtain ⟨oc,ho,hd⟩:=hc
 have ne:∀ {b:Addr} {o:Obj},s.heap.get? b = some o->(∀ u,o.data ≠ .cell u)->b ≠ a:=fun e n z=>by
  rw [z,ho] at e; cases e
  exact n _ hd
 refine ⟨fun b o e=>(k.2 b fun z=>by rw [z,h0] at e; cases e).trans (S.base b o e),S.frm,S.hd,fr_step S.fr fun b _ o es n e1 e2=>⟨o,es,n,(k.2 b (ne e1 fun u z=>by rw [e2] at z; cases z)).trans e1,e2⟩,S.gens,S.os,S.dr,⟨fun x d hx=>?_⟩,fun z=>by rw [hp] at z; cases z⟩
 obtain ⟨g1,g2,g3,g4,g5,g6,mA,g7,g8⟩:=S.slf.at_ x d hx
 refine ⟨g1,g2,g3,g4,g5,(k.2 x (ne g6 fun u z=>by cases z)).trans g6,mA,?_,g8⟩
 obtain ⟨od,es,ep,e1,e2,r⟩:=g7
 exact ⟨od,es,ep,(k.2 d (ne e1 fun u z=>by rw [e2] at z; cases z)).trans e1,e2,r⟩
structure LawF (F:Fx) (outer:List Env) (w:World) (S:Sets) (cs ce:Addr):Prop where
 X:∀ p,ActS (F.wi p) labC outer
 e:∀ p,Env0 w S (F.c.wi p)
 D:∀ p,Dicts (F.c.wi p)
 h1:F.C = tblAt 7
 h2:F.sc = scS lawS
 h3:F.cs = [(("ends":Str),ce),(("script":Str),cs)]
 hK:F.K = KS w S
 hp:F.c.pos = false
 hroom:F.A.depth <= 800
 hu:F.A.units < cLine
theorem law_rest {es:List T} {vals:List Value} {ye:Value} {a cs ce x d:Addr} {Q:FS} (Y:LawF F outer w S cs ce) (hx:F.c.slf = some (x,d)) (S2:F.St s m [some .self,none,none,none,none] sf)
 (hcs:s.heap.IsCell cs (some (.ref a))) (hce:s.heap.IsCell ce (some ye)) (ha:F.c.H0.IsList a vals.toArray) (hi:∀ v ∈ vals,∃ n t,v = Value.int n t) (hl:vals.length <= 63) (re:VR F.c s.heap (.list (es.map .str)) ye) (e0:0 < es.length) (e1:∀ y ∈ es,y.length <= 20)
 (h:∀ s' p sf',Sit (F.c.wi (some p)) F.A s' sf'->Q (.ret (.bool true)) s'):wpAny F.M F.A (execs [law2,law3,law4,lawN,law6] F.env) Q E s:=by
 have X:=Y.X F.c.slf
 refine wpAny_execs_cons (law_words X Y.h1 Y.h2 Y.h3 Y.hp S2 hcs hce ha hi hl re e0 e1 fun ws s1 m1 sf1 G1 w0 w3 hw=>?_)
 refine wpAny_execs_cons (law_due X Y.h1 Y.h2 Y.hp G1.st rfl hw fun s2 m2 sf2 G2=>?_)
 refine wpAny_execs_cons (law_if (lx:=none) (ly:=none) X (Y.e F.c.slf) (Y.D F.c.slf) Y.h2 Y.hK Y.hp hx Y.hroom Y.hu hw G2.st fun s3 sf3 T3=>?_)
 refine wpAny_execs_cons (sndS_forR X (sndSs X lawB) lawN (show chkS F.sc lawI lawN = true by rw [Y.h2]; exact lawN_chk) 0 _ _ s3 sf3 (fun fl l _=>fl = .next /\ ∃ x y,l = lawL ws x y) _ _ T3.st (show wpS F.C _ lawI _ _ _ by rw [Y.h1]; exact law_W hw (Nat.le_trans w3 (by decide)) fun s' x y=>⟨rfl,x,y,rfl⟩) fun fl l sf4 hP=>?_)
 obtain ⟨rfl,lx,ly,rfl⟩:=hP
 intro s4 m4 G4
 exact wpAny_execs_cons (law_last X (fun p=>Y.X (some p)) (Y.e F.c.slf) Y.h1 Y.h2 Y.hK Y.hp Y.hroom hw w0 G4.st fun s5 p sf5 S5=>h s5 p sf5 S5)
theorem law_in {vals:List Value} {a cs ce:Addr} {Q:FS} (Y:LawF F outer w S cs ce) (S2:F.St s m [none,none,none,none,none] sf)
 (hcs:s.heap.IsCell cs (some (.ref a))) (hce:s.heap.IsCell ce none) (h0:F.c.H0.get? ce = none) (hne:cs ≠ ce) (ha:F.c.H0.IsList a vals.toArray) (hi:∀ v ∈ vals,∃ n t,v = Value.int n t) (hl:vals.length <= 63)
 (h:∀ s' p sf',Sit (F.c.wi (some p)) F.A s' sf'->Q (.ret (.bool true)) s'):wpAny F.M F.A (execs [law0,law1,law2,law3,law4,lawN,law6] F.env) Q E s:=by
 have X:=Y.X F.c.slf
 have e:=Y.e F.c.slf
 have gl:∀ {x:Str},glob (scS lawS) x = true->glob F.env.scope x = true:=fun h=>by show glob F.sc _ = true; rw [Y.h2]; exact h
 have hcls:nsIn F.K mainGlobals "FrenchStemmer" = some (some (.ref F.c.FC)):=X.T.cls.1
 rw [show F.c.FC = 806 from e.FC] at hcls
 refine wpAny_execs_cons (wpAny_Assign_Name (wpAny_Call_NameR (p_glob (c:=F.c) (In.here X.X S2.toSit) X.hk (gl (by kernel_rfl)) hcls (callWith_K0 (K:=F.K) (In.here X.X S2.toSit) (by rw [Y.hK]; kernel_rfl) (make_stemmer e S2.toSit Y.hp (Nat.le_trans Y.hroom (by decide)) fun x d s1 gx gd S1 st1=>?_)))) rfl)
 have X2:=Y.X (some (x,d))
 have keepC:∀ {b:Addr} {v:Option Value},s.heap.IsCell b v->s1.heap.IsCell b v:=fun hb=>cell_keep S2.toSit hb (st1.wide fun _ z=>nomatch z)
 have T1:(F.wi (some (x,d))).St s1 m [none,none,none,none,none] fr0:=⟨S1,ns_up S2.ns (fun o e=>st1.up e fun z=>nomatch z),S2.inL,lr_none (n:=5) (by show (locsOf F.sc).length = 5; rw [Y.h2]; kernel_rfl)⟩
 refine p_store (F:=F.wi (some (x,d))) (i:=0) X2.toAct T1 (show isLoc F.sc 0 _ = true by rw [Y.h2]; kernel_rfl) (.self rfl) fun s2 G2=>?_
 have keepC2:∀ {b:Addr} {v:Option Value},s1.heap.IsCell b v->s2.heap.IsCell b v:=fun {b v} hb=>by
  obtain ⟨o,ho,hd⟩:=hb
  have nm:∀ o' es n,s1.heap.get? b = some o'->o'.data = .dict es n->False:=fun o' es n z1 z2=>by
   rw [ho] at z1; cases z1
   rw [hd] at z2; cases z2
  refine ⟨o,G2.to.same b o ho (fun z=>?_) (fun z=>?_),hd⟩
  ·obtain ⟨_,o',es,n,z1,z2⟩:=S1.mut_none (.inl z); exact nm _ _ _ z1 z2
  ·rcases List.mem_cons.mp z with z | z
   ·obtain ⟨o',es,n,z1,z2,_⟩:=T1.ns
    exact nm _ _ _ (by rw [z]; exact z1) z2
   ·obtain ⟨_,o',es,n,z1,z2⟩:=S1.mut_none (.inr z); exact nm _ _ _ z1 z2
 have g908:nsIn F.K mainGlobals "_law_ends" = some (some (.ref 908)):=by rw [Y.hK]; kernel_rfl
 refine wpAny_execs_cons (wpAny_Assign_Name (wpAny_Call_NameR (p_glob (c:=F.c) (In.here X2.X G2.st.toSit) X.hk (gl (by kernel_rfl)) g908 (callWith_K0 (K:=F.K) (In.here X2.X G2.st.toSit) (by rw [Y.hK]; kernel_rfl) (call_ends (c:=F.c.wi (some (x,d))) (Y.e _) Y.hp (Y.D _) G2.st.toSit Y.hroom fun y s3 sf3 es S3 st3 r3 l1 l2=>?_)))) rfl)
 have ce3:=cell_keep G2.st.toSit (keepC2 (keepC hce)) st3
 have cs3:=cell_keep G2.st.toSit (keepC2 (keepC hcs)) st3
 have T3:=back (.refl G2.st) S3 st3
 refine wpAny_storeName_cell X.hk (show F.sc.names.lookup _ = _ by rw [Y.h2]; kernel_rfl) (show F.cs.lookup _ = _ by rw [Y.h3]; rfl) ce3 fun h4 c4 k4=>?_
 have ns4:∀ {b:Addr} {o:Obj},s3.heap.get? b = some o->(∀ u,o.data ≠ .cell u)->h4.get? b = some o:=fun {b o} e n=>(k4.2 b fun z=>by
  obtain ⟨oc,q1,q2⟩:=ce3
  rw [z,q1] at e; cases e
  exact n _ q2).trans e
 have S4:(F.wi (some (x,d))).St { s3 with heap:=h4 } (fun n=>if n = "stemmer" then some (.ref x) else m n) [some .self,none,none,none,none] sf3:=by
  refine ⟨S3.cell ce3 h0 k4 Y.hp,?_,S2.inL,lr_five (by show locsOf F.sc = _; rw [Y.h2,law_locs]) (fun v z=>by cases z; exact ⟨_,if_pos rfl,.self rfl⟩) (fun v z=>nomatch z) (fun v z=>nomatch z) (fun v z=>nomatch z) fun v z=>nomatch z⟩
  obtain ⟨o,es',ep,z1,z2,z3⟩:=T3.st.ns
  exact ⟨o,es',ep,ns4 z1 (fun u z=>by rw [z2] at z; cases z),z2,z3⟩
 refine law_rest (F:=F.wi (some (x,d))) (x:=x) (d:=d) ⟨fun p=>Y.X p,fun p=>Y.e p,fun p=>Y.D p,Y.h1,Y.h2,Y.h3,Y.hK,Y.hp,Y.hroom,Y.hu⟩ rfl S4 (by
  obtain ⟨o,q1,q2⟩:=cs3
  exact ⟨o,(k4.2 cs hne).trans q1,q2⟩) c4 ha hi hl (vr_strs r3 (fun a hm _=>hm) fun a o _ ho hd=>ns4 ho fun u z=>by
  obtain ⟨xs,n,hd⟩:=hd
  rw [hd] at z; cases z) l1 l2 h
theorem law_at':(KL w).lookup 1011 = some (fnObj "law" (mdOf 3) (1011 - 1) lawS):=by kernel_rfl
theorem law_code:fnAddrs.contains (1011,"law") = true:=by kernel_rfl
theorem law_plain:plainFn lawS = true:=by kernel_rfl
theorem law_bind (x:Value):bindArgs (fdS "law" (mdOf 3) (1011 - 1) lawS) ⟨[x],[]⟩ = pure [(("script":Str),x)]:=by kernel_rfl
theorem law_cells {n:Nat}:cellsFrom n (scS lawS).names [] = [(("ends":Str),n + 1),(("script":Str),n)]:=by kernel_rfl
theorem call_ok:CallOk:=by
 intro w s a vs ns X hg hl hi hn
 obtain ⟨S,Z⟩:=setsIn_of X
 have S0:Sit ⟨w,s.heap,218,806,none,[],s.os,s.drawn,false⟩ callerA s fr0:=⟨fun b o e=>e,rfl,rfl,fun env he=>(nomatch he),hg,rfl,rfl,⟨fun x d hx=>(nomatch hx)⟩,fun z=>(nomatch z)⟩
 have hcnt:vs.length <= 63:=by
  have:∀ {vs:List Value} {ns:List Int},IntsAre vs ns->vs.length = ns.length:=fun h=>by induction h <;> simp_all
  rw [this hi]; exact hn
 refine wpAny_call (enterC (w:=w) X (q:="law") law_at' law_code law_plain (law_bind _) (by decide +kernel) (fun b o e=>e) (fun b z=>?_) fun s₁ z=>?_)
 ·cases List.mem_singleton.mp z
  exact .inr ⟨by kernel_rfl,by kernel_rfl⟩
 rw [law_cells] at z ⊢
 obtain ⟨⟨⟨h₀,tk,rfl⟩,ns,keep,_⟩,hcell,_,_⟩:=z
 rw [law_body]
 have hne:s.heap.get? (s.heap.objs.size + 1 + 1) = none:=Heap.get?_none_of_le (Nat.le_succ_of_le (Nat.le_succ _))
 have e:∀ (p:Option (Addr × Addr)) (envs:List Env),Env0 w S ⟨w,s.heap,218,806,p,envs,s.os,s.drawn,false⟩:=fun p envs=>⟨rfl,rfl,rfl,X,Z⟩
 have hk:(scS lawS).kind = .function:=by kernel_rfl
 have Y:LawF ⟨⟨w,s.heap,218,806,none,[envK "law" (scS lawS) s.heap.objs.size 1011 (.ref 1010) [(("ends":Str),s.heap.objs.size + 1 + 1),(("script":Str),s.heap.objs.size + 1)]],s.os,s.drawn,false⟩,KS w S,tblAt 7,8,callerA.deeper (envK "law" (scS lawS) s.heap.objs.size 1011 (.ref 1010) [(("ends":Str),s.heap.objs.size + 1 + 1),(("script":Str),s.heap.objs.size + 1)]),scS lawS,s.heap.objs.size,"law",1011,.ref 1010,[(("ends":Str),s.heap.objs.size + 1 + 1),(("script":Str),s.heap.objs.size + 1)]⟩ [] w S (s.heap.objs.size + 1) (s.heap.objs.size + 1 + 1) :=
  ⟨fun p=>actS (c:=⟨w,s.heap,218,806,p,[],s.os,s.drawn,false⟩) (e p []) rfl (dicts (e p [])) 7 hk (by decide +kernel) (show callerA.depth + 1 + 8 <= 900 by decide +kernel),fun p=>e p _,fun p=>dicts (e p _),rfl,rfl,rfl,rfl,rfl,(show callerA.depth + 1 <= 800 by decide +kernel),(show callerA.units + 3 < cLine by decide +kernel)⟩
 refine law_in Y ⟨Sit.deeper (c:=⟨w,s.heap,218,806,none,[],s.os,s.drawn,false⟩) (envs:=[]) (p:=false) S0 rfl hk ns keep (fun z=>nomatch z),ns,List.mem_cons_self,lr_none (n:=5) (by kernel_rfl)⟩ (hcell "script" _ (by kernel_rfl)) (hcell "ends" _ (by kernel_rfl)) hne (Nat.ne_of_lt (Nat.lt_succ_self _)) hl (ints_at hi) hcnt fun s' p sf' S'=>?_
 exact ⟨rfl,S'.base,S'.os,S'.gens⟩
theorem claim:PySem.Challenge.rw_ai0042_01.Holds:=whole call_ok
end
end Mine
end
theorem PySem.Challenge.cw_ai0042_01_holds : PySem.Challenge.rw_ai0042_01.Holds :=
  Mine.claim
