import PyProof.Rows.All
import Wide.All
import OpenK.AllK
import OpenK.XSeg
import Wide.FinOn
import KE.KPar
import KE.KLam
import KE.KSortTup
import KE.KDictList
import PyProof.DictRoadsH
import PySem.Challenge.RW_nc0003_03
open PySem PySem.W PyProof.Rows
set_option Elab.async false
set_option linter.all false
set_option maxRecDepth 100000
set_option maxHeartbeats 8000000
set_option genInjectivity false
set_option genSizeOf false
namespace Mine
section
theorem byG {P : Prop} (h : ∀ G : Prop,(P → G) → G) : P := h P id
theorem none_some {α : Type} {a : α} {P : Prop} (h : none = some a) : P := (Option.some_ne_none a h.symm).elim
end
section
theorem putName_cls (name : Str) (h : Int) (key v : Value) (o : Obj) : (Obj.putName name h key v o).cls = o.cls := by
 obtain ⟨c,d,dt,sl⟩ := o
 rw [Obj.putName_eq]
 unfold Obj.putNameByArray
 cases dt <;> first | rfl | (dsimp only; split <;> rfl)
noncomputable def SameCls (a : Addr) (h h' : Heap) : Prop := ∀ o,h.get? a = some o → ∃ o',h'.get? a = some o' ∧ o'.cls = o.cls
section
variable {M : Model} {A : Around} {E : Value → Shared → Prop} {s : Shared}
theorem nsSet_cls {a : Addr} {m : Str → Option Value} {name : Str} {v : Value} {Q : Unit → Shared → Prop} (hn : s.heap.Ns a m)
  (h : ∀ h',h'.Ns a (fun x => if x = name then some v else m x) → Heap.SameBut a s.heap h' → SameCls a s.heap h' → Q () { s with heap := h',toks := s.toks + 1 }) : wpAny M A (nsSet a name v) Q E s := fun Γ p hΓ => by
 have W := Sem.wp_nsSet M Γ (fun e _ s' => E e s') p s hn name v (fun _ _ s' => s'.heap.Ns a (fun x => if x = name then some v else m x) ∧ Heap.SameBut a s.heap s'.heap) fun h' x y => ⟨x,y⟩
 obtain ⟨o,es,ep,ho,hd,hk,hm⟩ := id hn
 have hany : es.any (·.refKey) = false := by
  rw [Array.any_eq_false']; intro e he; obtain ⟨n,t,h⟩ := hk e he; simp [DictEntry.refKey,h]
 simp only [nsSet,strHash,Sem.wp_bind',Sem.wp_cmd_ask,Sem.wp_pure',Sem.wp_cmd_mkText] at W ⊢
 rw [Sem.wp_loadPart_of M Γ _ p { s with toks := s.toks + 1 } (o := o) _ ho] at W ⊢
 simp only [hd,aRefKeyMayBeTheName_eq,aRefKeyMayBeTheNameByArray,hany,Bool.and_false,Bool.false_eq_true,if_false,Sem.wp_cmd_updatePart] at W ⊢
 refine ⟨W.1,h _ W.2.1 W.2.2 fun o' e => ?_⟩
 rw [ho] at e; cases e
 obtain ⟨o2,es2,ep2,e2,d2,_⟩ := W.2.1
 refine ⟨_,Heap.get?_update_self _ ho ?_,putName_cls ..⟩
 have hf : (s.heap.update a (Obj.putName name (PyData.keyHash M.w.params name) (.str name s.toks) v)).get? a = some o2 := e2
 obtain ⟨c,d,dt,sl⟩ := o
 subst hd
 rw [Obj.putName_eq]
 unfold Obj.putNameByArray
 dsimp only
 split <;> rfl
theorem storeName_cls {env : Env} {name : Str} {m : Str → Option Value} {v : Value} {Q : Unit → Shared → Prop} (hl : env.kindOf name = some .local) (hn : s.heap.Ns env.locals m)
  (h : ∀ h',h'.Ns env.locals (fun x => if x = name then some v else m x) → Heap.SameBut env.locals s.heap h' → SameCls env.locals s.heap h' → Q () { s with heap := h',toks := s.toks + 1 })
  (hp : (env.scope.kind == .class || (env.scope.kind == .module && env.locals != env.globals)) = false) : wpAny M A (storeName env name v) Q E s := by
 rw [storeName_local hl hp]; exact nsSet_cls hn h
end
end
section
noncomputable def RvG (M : Model) (Γ : Ctx) (p : Pos) (g : Nat) (r : Resume) (k : GenResult → Sem Fin) (s : Shared) (e : End) (s' : Shared) : GenState → Prop
 | .fresh c => match r with
  | .send v => (v = .none ∧ ∃ e₁ s₁,Runs M (Γ.wake c p) p (M.den c) [] (s.setGen g .running) e₁ s₁ ∧ Runs M Γ p (k e₁.result) [] (s₁.setGen g e₁.genState) e s') ∨ (v ≠ .none ∧ Runs M Γ p (k .justStarted) [] s e s')
  | .throw x => Runs M Γ p (k (.raised x)) [] (s.setGen g .finished) e s'
 | .suspended k₀ _ c₀ p₀ fs _ => ∃ e₁ s₁,Runs M (Γ.wake c₀ p) p₀ (k₀ r) fs (s.setGen g .running) e₁ s₁ ∧ Runs M Γ p (k e₁.result) [] (s₁.setGen g e₁.genState) e s'
 | .running => Runs M Γ p (k .running) [] s e s'
 | .finished => Runs M Γ p (k .finished) [] s e s'
noncomputable def RvF (M : Model) (Γ : Ctx) (F : Frame) (fs : List Frame) (e : End) (s' : Shared) (s₁ : Shared) : End → Prop
 | .ret r => match F with
  | .ret k _ _ _ c₁ p₁ _ => Runs M (Γ.goto c₁) p₁ (k r) fs s₁ e s'
  | .gen g k _ c₁ p₁ => Runs M (Γ.goto c₁) p₁ (k (End.ret r).result) fs (s₁.setGen g .finished) e s'
 | .susp v g₀ l₀ k₀ c₀ p₀ fs₀ => match splitAtGen (F :: fs) with
  | none => e = .susp v g₀ l₀ k₀ c₀ p₀ (fs₀ ++ F :: fs) ∧ s' = s₁
  | some x => Runs M (Γ.goto x.2.1.2.2.1) x.2.1.2.2.2 (x.2.1.2.1 (.yielded v)) x.2.2 (s₁.setGen x.2.1.1 (End.susp v g₀ l₀ k₀ c₀ p₀ (fs₀ ++ x.1)).genState) e s'
noncomputable def RvC (M : Model) (Γ : Ctx) (p : Pos) (k : Result → Sem Fin) (e : End) (s' : Shared) (f : List Frame → List Frame) (s₁ : Shared) : End → Prop
 | .ret r => Runs M Γ p (k r) [] s₁ e s'
 | .susp v g₀ l₀ k₀ c₀ p₀ fs => e = .susp v g₀ l₀ k₀ c₀ p₀ (f fs) ∧ s' = s₁
noncomputable def RvP (M : Model) (Γ : Ctx) (p : Pos) (s : Shared) (e : End) (s' : Shared) : Fin → Prop
 | .done f => e = .ret (.ok f) ∧ s' = s
 | .again c => Runs M (Γ.goto c) p (M.den c) [] s e s'
noncomputable def Rv (M : Model) (Γ : Ctx) (p : Pos) (s : Shared) (e : End) (s' : Shared) : Sem Fin → Prop
 | .pure x => RvP M Γ p s e s' x
 | .raise x => e = .ret (.error x) ∧ s' = s
 | .rule _ k => Runs M Γ p (k ()) [] s e s'
 | .at p' k => Runs M Γ p' (k ()) [] s e s'
 | .load a _ k => ∃ o,s.heap.get? a = some o ∧ Runs M Γ p (k o) [] s e s'
 | .update a _ f k => Runs M Γ p (k ()) [] { s with heap := s.heap.update a f } e s'
 | .loadIfAlive a k => Runs M Γ p (k (s.heap.get? a)) [] s e s'
 | .point _ k => Runs M Γ p (k ()) [] s e s'
 | .alloc o k => Runs M Γ p (k s.heap.objs.size) [] { s with heap := s.heap.push o } e s'
 | .fresh k => Runs M Γ p (k s.toks) [] { s with toks := s.toks + 1 } e s'
 | .ask k => Runs M Γ p (k ⟨M.prog,M.w.params⟩) [] s e s'
 | .choose src n k => Runs M Γ p (k (M.w.draws src (s.drawn.get src) % n)) [] { s with drawn := s.drawn.bump src } e s'
 | .os q _ k => Runs M Γ p (k (Os.step s.os q).2) [] { s with os := (Os.step s.os q).1 } e s'
 | .handled own k => Runs M Γ p (k (if own then Γ.own else Γ.handled)) [] s e s'
 | .genState g k => ∃ st,s.gens[g]? = some st ∧ Runs M Γ p (k st.seen) [] s e s'
 | .stack k => Runs M Γ p (k ((Γ.code,p) :: Γ.below)) [] s e s'
 | .thread k => Runs M Γ p (k 0) [] s e s'
 | .newGen c k => Runs M Γ p (k s.gens.size) [] { s with gens := s.gens.push (.fresh c) } e s'
 | .call c h g l k => ∃ e₁ s₁,Runs M (Γ.enter c h p) p (M.den c) [] s e₁ s₁ ∧ RvC M Γ p k e s' (fun fs => fs ++ [.ret k h g l Γ.code p []]) s₁ e₁
 | .yield v g l k => e = .susp v g l k Γ.code p [] ∧ s' = s
 | .resume g r _ k => ∃ st,s.gens[g]? = some st ∧ RvG M Γ p g r k s e s' st
 | _ => True
noncomputable def RvL (M : Model) (Γ : Ctx) (p : Pos) (t : Sem Fin) (s : Shared) (e : End) (s' : Shared) : List Frame → Prop
 | [] => Rv M Γ p s e s' t
 | F :: fs => ∃ e₁ s₁,Runs M (Γ.over (F :: fs)) p t [] s e₁ s₁ ∧ RvF M Γ F fs e s' s₁ e₁
theorem runs_inv {M : Model} {Γ : Ctx} {p : Pos} {t : Sem Fin} {fs : List Frame} {s s' : Shared} {e : End} (h : Runs M Γ p t fs s e s') : RvL M Γ p t s e s' fs := by
 induction h using Runs.casesOn with
 | done => exact ⟨rfl,rfl⟩
 | raise => exact ⟨rfl,rfl⟩
 | yield => exact ⟨rfl,rfl⟩
 | load a b => exact ⟨_,a,b⟩
 | genState a b => exact ⟨_,a,b⟩
 | update a b => exact b
 | choose a b => exact b
 | again a b => exact b
 | call a b => exact ⟨_,_,a,b⟩
 | callSusp a => exact ⟨_,_,a,rfl,rfl⟩
 | resumeFresh a b c d => exact ⟨_,a,.inl ⟨rfl,_,_,b,d⟩⟩
 | resumeSuspended a b c d => exact ⟨_,a,_,_,b,d⟩
 | resumeJustStarted a b c => exact ⟨_,a,.inr ⟨b,c⟩⟩
 | resumeThrowFresh a b => exact ⟨_,a,b⟩
 | resumeRunning a b => exact ⟨_,a,b⟩
 | resumeFinished a b => exact ⟨_,a,b⟩
 | segRet a b => exact ⟨_,_,a,b⟩
 | segGen a b => exact ⟨_,_,a,b⟩
 | segSuspOut a b => exact ⟨_,_,b,by unfold RvF; rw [a]; exact ⟨rfl,rfl⟩⟩
 | segSuspGen a b c d => exact ⟨_,_,b,by unfold RvF; rw [a]; exact d⟩
 | _ => assumption
theorem gen_one {st st' : GenState} {o : Option GenState} (h : o = some st) (h' : o = some st') : st' = st := Option.some.inj (h'.symm.trans h)
theorem runs_det {M : Model} {Γ : Ctx} {p : Pos} {t : Sem Fin} {fs : List Frame} {s s' : Shared} {e : End} (h : Runs M Γ p t fs s e s') : ∀ {e1 : End} {s1 : Shared},Runs M Γ p t fs s e1 s1 → e = e1 ∧ s' = s1 := by
 have key : ∀ (e1 : End) (s1 : Shared),RvL M Γ p t s e1 s1 fs → e = e1 ∧ s' = s1 := by
  induction h with
  | done => exact fun _ _ h => ⟨h.1.symm,h.2.symm⟩
  | raise => exact fun _ _ h => ⟨h.1.symm,h.2.symm⟩
  | yield => exact fun _ _ h => ⟨h.1.symm,h.2.symm⟩
  | load ho _ ih => exact fun _ _ ⟨o,a,b⟩ => ih _ _ (runs_inv (Option.some.inj (a.symm.trans ho) ▸ b))
  | genState ho _ ih => exact fun _ _ ⟨o,a,b⟩ => ih _ _ (runs_inv (gen_one ho a ▸ b))
  | call _ _ ih1 ih2 =>
   rintro e1 s1 ⟨e2,s2,a,b⟩
   obtain ⟨rfl,rfl⟩ := ih1 _ _ (runs_inv a)
   exact ih2 _ _ (runs_inv b)
  | callSusp _ ih =>
   rintro e1 s1 ⟨e2,s2,a,b⟩
   obtain ⟨rfl,rfl⟩ := ih _ _ (runs_inv a)
   exact ⟨b.1.symm,b.2.symm⟩
  | resumeFresh ho _ _ _ ih1 ih2 =>
   rintro e1 s1 ⟨st,a,b⟩
   rw [gen_one ho a] at b
   rcases b with ⟨_,e2,s2,a,b⟩ | ⟨h,_⟩
   ·obtain ⟨rfl,rfl⟩ := ih1 _ _ (runs_inv a)
    exact ih2 _ _ (runs_inv b)
   ·exact absurd rfl h
  | resumeSuspended ho _ _ _ ih1 ih2 =>
   rintro e1 s1 ⟨st,a,b⟩
   rw [gen_one ho a] at b
   obtain ⟨e2,s2,a,b⟩ := b
   obtain ⟨rfl,rfl⟩ := ih1 _ _ (runs_inv a)
   exact ih2 _ _ (runs_inv b)
  | resumeJustStarted ho hv _ ih =>
   rintro e1 s1 ⟨st,a,b⟩
   rw [gen_one ho a] at b
   rcases b with ⟨h,_⟩ | ⟨_,b⟩
   ·exact absurd h hv
   ·exact ih _ _ (runs_inv b)
  | resumeThrowFresh ho _ ih =>
   rintro e1 s1 ⟨st,a,b⟩
   rw [gen_one ho a] at b
   exact ih _ _ (runs_inv b)
  | resumeRunning ho _ ih =>
   rintro e1 s1 ⟨st,a,b⟩
   rw [gen_one ho a] at b
   exact ih _ _ (runs_inv b)
  | resumeFinished ho _ ih =>
   rintro e1 s1 ⟨st,a,b⟩
   rw [gen_one ho a] at b
   exact ih _ _ (runs_inv b)
  | segRet _ _ ih1 ih2 =>
   rintro e1 s1 ⟨e2,s2,a,b⟩
   obtain ⟨rfl,rfl⟩ := ih1 _ _ (runs_inv a)
   exact ih2 _ _ (runs_inv b)
  | segGen _ _ ih1 ih2 =>
   rintro e1 s1 ⟨e2,s2,a,b⟩
   obtain ⟨rfl,rfl⟩ := ih1 _ _ (runs_inv a)
   exact ih2 _ _ (runs_inv b)
  | segSuspOut hsp _ ih =>
   rintro e1 s1 ⟨e2,s2,a,b⟩
   obtain ⟨rfl,rfl⟩ := ih _ _ (runs_inv a)
   unfold RvF at b
   rw [hsp] at b
   exact ⟨b.1.symm,b.2.symm⟩
  | segSuspGen hsp _ _ _ ih1 ih2 =>
   rintro e1 s1 ⟨e2,s2,a,b⟩
   obtain ⟨rfl,rfl⟩ := ih1 _ _ (runs_inv a)
   unfold RvF at b
   rw [hsp] at b
   exact ih2 _ _ (runs_inv b)
  | _ => rename_i ih; exact fun _ _ h => ih _ _ (runs_inv h)
 exact fun {_ _} h2 => key _ _ (runs_inv h2)
theorem wakes_det {M : Model} {Γ : Ctx} {p : Pos} {g : Nat} {r : Resume} {s s1 s2 : Shared} {r1 r2 : GenResult} (h1 : Wakes M Γ p g r s r1 s1) (h2 : Wakes M Γ p g r s r2 s2) : r1 = r2 ∧ s1 = s2 := by
 unfold Wakes at h1 h2
 cases hg : s.gens[g]? with
 | none => rw [hg] at h1; exact h1.elim
 | some st =>
  rw [hg] at h1 h2
  cases st with
  | fresh c =>
   dsimp only at h1 h2
   cases r with
   | throw x => exact ⟨h1.1.trans h2.1.symm,h1.2.trans h2.2.symm⟩
   | send v =>
    by_cases hv : v = .none
    ·subst hv
     obtain ⟨e1,t1,a1,b1,c1,d1⟩ := h1
     obtain ⟨e2,t2,a2,b2,c2,d2⟩ := h2
     obtain ⟨x,y⟩ := runs_det a1 a2
     subst x; subst y
     exact ⟨c1.trans c2.symm,d1.trans d2.symm⟩
    ·cases v <;> first | exact (hv rfl).elim | exact ⟨h1.1.trans h2.1.symm,h1.2.trans h2.2.symm⟩
  | suspended k l c p' fs x =>
   dsimp only at h1 h2
   obtain ⟨e1,t1,a1,b1,c1,d1⟩ := h1
   obtain ⟨e2,t2,a2,b2,c2,d2⟩ := h2
   obtain ⟨x,y⟩ := runs_det a1 a2
   subst x; subst y
   exact ⟨c1.trans c2.symm,d1.trans d2.symm⟩
  | running => exact ⟨h1.1.trans h2.1.symm,h1.2.trans h2.2.symm⟩
  | finished => exact ⟨h1.1.trans h2.1.symm,h1.2.trans h2.2.symm⟩
theorem wp_all {α ι : Type} {M : Model} {Γ : Ctx} (i0 : ι) : ∀ (t : Sem α) {Q : ι → α → Pos → Shared → Prop} {E : ι → Value → Pos → Shared → Prop} {p : Pos} {s : Shared},(∀ i,Sem.wp M Γ t (Q i) (E i) p s) →
  Sem.wp M Γ t (fun a p s => ∀ i,Q i a p s) (fun e p s => ∀ i,E i e p s) p s := by
 intro t
 induction t with
 | pure a => intro Q E p s h; exact h
 | raise e => intro Q E p s h; exact h
 | unsupported _ => intro Q E p s h; exact h i0
 | finish _ => intro Q E p s h; exact h i0
 | rule _ k ih => intro Q E p s h; exact ih _ h
 | «at» p' k ih => intro Q E p s h; exact ih _ h
 | load a part k ih =>
  intro Q E p s h
  obtain ⟨o,ho,_⟩ := h i0
  exact ⟨o,ho,ih _ fun i => by obtain ⟨o',ho',w⟩ := h i; rw [ho] at ho'; cases ho'; exact w⟩
 | update a part f k ih => intro Q E p s h; exact ⟨(h i0).1,ih _ fun i => (h i).2⟩
 | loadIfAlive a k ih => intro Q E p s h; exact ih _ h
 | point l k ih => intro Q E p s h; exact ih _ h
 | register a k ih => intro Q E p s h; exact h i0
 | alloc o k ih => intro Q E p s h; exact ih _ h
 | fresh k ih => intro Q E p s h; exact ih _ h
 | ask k ih => intro Q E p s h; exact ih _ h
 | choose src n k ih => intro Q E p s h; exact ⟨(h i0).1,ih _ fun i => (h i).2⟩
 | os q l k ih => intro Q E p s h; exact ih _ h
 | call c hh g l k ih =>
  intro Q E p s h
  obtain ⟨r,s',hr,_⟩ := h i0
  exact ⟨r,s',hr,ih _ fun i => by
   obtain ⟨r2,s2,hr2,w⟩ := h i
   obtain ⟨x,y⟩ := runs_det hr hr2
   cases x; subst y
   exact w⟩
 | handled own k ih => intro Q E p s h; exact ih _ h
 | genState g k ih =>
  intro Q E p s h
  obtain ⟨o,ho,_⟩ := h i0
  exact ⟨o,ho,ih _ fun i => by obtain ⟨o',ho',w⟩ := h i; rw [ho] at ho'; cases ho'; exact w⟩
 | newGen c k ih => intro Q E p s h; exact ih _ h
 | resume g r l k ih =>
  intro Q E p s h
  obtain ⟨r1,s1,hr,_⟩ := h i0
  exact ⟨r1,s1,hr,ih _ fun i => by
   obtain ⟨r2,s2,hr2,w⟩ := h i
   obtain ⟨x,y⟩ := wakes_det hr hr2
   subst x; subst y
   exact w⟩
 | yield _ _ _ _ => intro Q E p s h; exact h i0
 | stack k ih => intro Q E p s h; exact ih _ h
 | fork _ _ => intro Q E p s h; exact h i0
 | thread k ih => intro Q E p s h; exact ih _ h
 | await _ _ => intro Q E p s h; exact h i0
theorem wpAny_all {α ι : Type} {M : Model} {A : Around} (i0 : ι) {t : Sem α} {Q : ι → α → Shared → Prop} {E : Value → Shared → Prop} {s : Shared} (h : ∀ i,wpAny M A t (Q i) E s) : wpAny M A t (fun a s => ∀ i,Q i a s) E s := fun Γ p hΓ =>
 Sem.wp_mono M Γ _ (fun _ _ _ x => x) (fun _ _ _ x => x i0) _ _ (wp_all (ι := ι) i0 t (Q := fun i a _ s => Q i a s) (E := fun _ e _ s => E e s) fun i => h i Γ p hΓ)
theorem wpAny_and {α : Type} {M : Model} {A : Around} {t : Sem α} {Q Q' : α → Shared → Prop} {E : Value → Shared → Prop} {s : Shared} (h : wpAny M A t Q E s) (h' : wpAny M A t Q' E s) : wpAny M A t (fun a s => Q a s ∧ Q' a s) E s :=
 wpAny_mono (wpAny_all (ι := Bool) true (Q := fun b => if b then Q else Q') fun b => by cases b <;> assumption) (fun a s x => ⟨x true,x false⟩) fun _ _ x => x
end
section
noncomputable def FrameObj (L : Addr) (h : Heap) : Prop := ∃ o es ep,h.get? L = some o ∧ o.cls = .type "frame" ∧ o.data = .dict es ep
section
variable {M : Model} {A : Around} {E : Value → Shared → Prop} {s₀ s : Shared} {m cm : Str → Option Value} {env : Env}
theorem FrameObj.store {name : Str} {v : Value} (F : FrameObj env.locals s.heap) (hl : env.kindOf name = some .local) (hk : env.scope.kind = .function) (hn : s.heap.Ns env.locals m) : wpAny M A (storeName env name v) (fun _ s' => FrameObj env.locals s'.heap) E s := by
 obtain ⟨o,es,ep,e,c,d⟩ := F
 refine storeName_cls hl hn (fun h' hn' hs' hcl => ?_) (by rw [hk]; rfl)
 obtain ⟨o',e',c'⟩ := hcl o e
 obtain ⟨o2,es2,ep2,e2,d2,_⟩ := hn'
 rw [e'] at e2; cases e2
 exact ⟨o',es2,ep2,e',c'.trans c,d2⟩
theorem bind_cls (f : Str × Value → PUnit → Sem (ForInStep PUnit)) (hf : ∀ n v u,f (n,v) u = (do storeName env n v; pure (.yield ⟨⟩))) (hk : env.scope.kind = .function) :
  ∀ (binds : List (Str × Value)) (m cm : Str → Option Value) (s : Shared) (Q : PUnit → Shared → Prop),InCallC s₀ env.locals m env.cells cm s → FrameObj env.locals s.heap →
   (∀ x ∈ binds,env.kindOf x.1 = some .local ∨ (env.kindOf x.1 = some .cell ∧ (env.cells.lookup x.1).isSome = true)) →
   (∀ s',FrameObj env.locals s'.heap → Q ⟨⟩ s') → wpAny M A (forIn binds ⟨⟩ f) Q E s
 | [],m,cm,s,Q,x,F,_,h => by rw [List.forIn_nil]; exact wpAny_pure (h s F)
 | (n,v) :: r,m,cm,s,Q,x,F,hkind,h => by
  rw [List.forIn_cons,hf]
  have hr : ∀ y ∈ r,env.kindOf y.1 = some .local ∨ (env.kindOf y.1 = some .cell ∧ (env.cells.lookup y.1).isSome = true) := fun y hy => hkind y (List.mem_cons_of_mem _ hy)
  rcases hkind (n,v) List.mem_cons_self with hl | ⟨hl,hc⟩
  ·have r1 : wpAny M A (storeName env n v) (fun _ s' => InCallC s₀ env.locals (fun y => if y = n then some v else m y) env.cells cm s') E s := stLC x hk hl fun s' x' => x'
   have r2 : wpAny M A (storeName env n v) (fun _ s' => FrameObj env.locals s'.heap) E s := F.store hl hk x.toInCall.ns
   exact wpAny_bind (wpAny_bind (wpAny_mono (wpAny_and r1 r2) (fun _ s' z => wpAny_pure (bind_cls f hf hk r _ _ s' Q z.1 z.2 hr h)) fun _ _ e => e))
  ·obtain ⟨c,hc⟩ := Option.isSome_iff_exists.mp hc
   have r1 : wpAny M A (storeName env n v) (fun _ s' => InCallC s₀ env.locals m env.cells (fun y => if y = n then some v else cm y) s') E s := stCC x hk hl hc fun s' x' => x'
   have r2 : wpAny M A (storeName env n v) (fun _ s' => FrameObj env.locals s'.heap) E s := by
    refine wpAny_storeName_cell hk hl hc (x.cell n c hc) fun h' hc' hs' => ?_
    obtain ⟨o,es,ep,e,cc,d⟩ := F
    exact ⟨o,es,ep,(hs'.2 _ (Nat.ne_of_lt (x.above n c (mem_of_lookup hc)))).trans e,cc,d⟩
   exact wpAny_bind (wpAny_bind (wpAny_mono (wpAny_and r1 r2) (fun _ s' z => wpAny_pure (bind_cls f hf hk r _ _ s' Q z.1 z.2 hr h)) fun _ _ e => e))
end
section
variable {M : Model} {A : Around} {E : Value → Shared → Prop} {s : Shared}
theorem newEnv_cls {scope : Scope} {globals : Addr} {binds : List (Str × Value)} {qual : Str} {func : Option Addr} {code : Value} {builtins : Addr}
  (hk : scope.kind = .function)
  (hkind : ∀ x ∈ binds,scope.names.lookup x.1 = some .local ∨ (scope.names.lookup x.1 = some .cell ∧ ((cellsFrom (s.heap.objs.size + 1) scope.names []).lookup x.1).isSome = true)) :
  wpAny M A (newFunctionEnv scope globals [] binds qual func code none builtins) (fun env s' => FrameObj env.locals s'.heap) E s := by
 simp only [newFunctionEnv,Option.isSome_none,Bool.false_eq_true,if_false]
 refine wpAny_bind (wpAny_alloc ?_)
 refine wpAny_bind (wpAny_layCells _ (fun name kind cells => by cases hkc : kind == NameKind.cell <;> simp [hkc]) _ _ _ _ ?_)
 have ok := cellsFrom_ok scope.names (s.heap.push { cls := .type "frame",data := .dict #[] }) (s.heap.objs.size + 1) [] ⟨fun _ _ hm => (nomatch hm),List.Pairwise.nil⟩ (by rw [Heap.size_push]; exact Nat.le_refl _)
 rw [Heap.size_push] at ok
 rw [show ({ s with heap := s.heap.push { cls := .type "frame",data := .dict #[] } } : Shared).heap.objs.size = s.heap.objs.size + 1 from Heap.size_push ..]
 refine wpAny_bind (bind_cls (s₀ := s) (env := newEnv scope s.heap.objs.size globals (cellsFrom (s.heap.objs.size + 1) scope.names []) qual func code none builtins)
  _ (fun _ _ _ => rfl) hk binds (fun _ => none) (fun _ => none) _ _
  ⟨⟨⟨_,_,rfl⟩,(Heap.Ns.new s.heap (.type "frame")).keeps (pushCells_keeps _ _),fun b o e => pushCells_keeps _ _ b o (Heap.get?_push_of_some _ e),Nat.le_refl _⟩,
   fun n c hc => (ok.empty n c (mem_of_lookup hc)).1,ok.apart,fun n c hm => (ok.empty n c hm).2⟩
  ⟨_,_,_,pushCells_keeps _ _ _ _ (Heap.get?_push_size _ rfl),rfl,rfl⟩ hkind fun s' F => wpAny_pure F)
end
section
variable {prog : Program} {w : World} {A : Around} {s : Shared}
theorem call_cls {R : Result → Shared → Prop} {a : Addr} {o : Obj} {fd : FuncData} {body : List Stmt} {args : Args} {binds : List (Str × Value)}
  (hroom : A.depth < recursionLimit) (ho : s.heap.get? a = some o) (hdata : o.data = .func fd) (hlim : s.heap.NoLimit) (hcd : s.heap.CodeRec fd.code fd.qualname)
  (hbody : fd.body = .stmts body) (hbind : BindsTo s fd args binds) (hclo : fd.closure = [])
  (hkind : ∀ x ∈ binds,fd.scope.names.lookup x.1 = some .local ∨ (fd.scope.names.lookup x.1 = some .cell ∧ ((cellsFrom (s.heap.objs.size + 1) fd.scope.names []).lookup x.1).isSome = true))
  (h : ∀ s₁,InCallC s (callEnvC fd s.heap.objs.size a).locals (bindL (callEnvC fd s.heap.objs.size a).kindOf binds fun _ => none) (callEnvC fd s.heap.objs.size a).cells
    (bindC (callEnvC fd s.heap.objs.size a).kindOf binds fun _ => none) s₁ → FrameObj (callEnvC fd s.heap.objs.size a).locals s₁.heap →
   wpAny (model prog w) (A.deeper (callEnvC fd s.heap.objs.size a)) (execs body (callEnvC fd s.heap.objs.size a)) (fun f s' => R (.ok (.ret (match f with | .ret v => v | _ => .none))) s')
    (fun e s' => wpAny (model prog w) (A.deeper (callEnvC fd s.heap.objs.size a)) (leaving (callEnvC fd s.heap.objs.size a) e) (fun _ s'' => R (.error e) s'') (fun e' s'' => R (.error e') s'') s') s₁)
  (hco : fd.scope.isCoroutine = false) (hgen : fd.scope.isGenerator = false) (hk : fd.scope.kind = .function) :
  codeAny (model prog w) A (.call (.ref a) args) R s := by
 refine codeAny_call_function hroom ho hdata hco hgen hbody hcd (hbind _ _ _ _ ?_)
 rw [hclo]
 refine wpAny_mono (wpAny_and (wpAny_newFunctionEnv_cells (Q := fun env s' => env = newEnv fd.scope s.heap.objs.size fd.globals (cellsFrom (s.heap.objs.size + 1) fd.scope.names []) (fd.qualname ++ ".<locals>.") (some a) fd.code none fd.builtins ∧
   InCallC s env.locals (bindL env.kindOf binds fun _ => none) env.cells (bindC env.kindOf binds fun _ => none) s') hk hkind fun env he s' x => ⟨he,x⟩) (newEnv_cls hk hkind)) (fun env s' z => ?_) fun _ _ e => e
 obtain ⟨⟨he,x⟩,F⟩ := z
 subst he
 exact ⟨hlim.keeps x.toInCall.keep,codeAny_func (h s' x F)⟩
end
end
section
theorem elim_none {α β : Type} {o : Option α} {b : β} {g : α → β} (h : o = none) : o.elim b g = b := by rw [h]; rfl
theorem elim_some {α β : Type} {o : Option α} {a : α} {b : β} {g : α → β} (h : o = some a) : o.elim b g = g a := by rw [h]; rfl
noncomputable def lookI (c : Int) : List (Int × Nat) → Option Nat
 | [] => none
 | (d,j) :: r => if d = c then some j else lookI c r
theorem lookI_append {c : Int} {l r : List (Int × Nat)} : lookI c (l ++ r) = (lookI c l).or (lookI c r) := by
 induction l with
 | nil => rfl
 | cons p l ih =>
  show (if p.1 = c then some p.2 else lookI c (l ++ r)) = (if p.1 = c then some p.2 else lookI c l).or (lookI c r)
  by_cases h : p.1 = c
  ·rw [if_pos h,if_pos h]; rfl
  ·rw [if_neg h,if_neg h]; exact ih
theorem lookI_hit {c : Int} {p : Int × Nat} {r : List (Int × Nat)} (h : p.1 = c) : lookI c (p :: r) = some p.2 := if_pos h
theorem lookI_miss {c : Int} {p : Int × Nat} {r : List (Int × Nat)} (h : p.1 ≠ c) : lookI c (p :: r) = lookI c r := if_neg h
theorem lookI_mem {c : Int} {l : List (Int × Nat)} {j : Nat} (h : lookI c l = some j) : (c,j) ∈ l := by
 induction l with
 | nil => exact (Option.some_ne_none _ h.symm).elim
 | cons p l ih =>
  by_cases hd : p.1 = c
  ·have e : p = (c,j) := Prod.ext hd (Option.some.inj ((lookI_hit hd).symm.trans h))
   rw [e]; exact List.mem_cons_self
  ·exact List.mem_cons_of_mem _ (ih ((lookI_miss hd).symm.trans h))
structure PNd where
 sym : Option Int
 par : Option Nat
 suc : Bool
 kw : Option (List Int)
 lss : Option Nat
 outs : Option (List (List Int))
 tr : List (Int × Nat)
noncomputable def root0 : PNd := ⟨none,none,false,none,none,none,[]⟩
noncomputable def newNd (c : Int) (p : Nat) : PNd := ⟨some c,some p,false,none,none,none,[]⟩
noncomputable def stepT (T : List PNd) (cur : Nat) (c : Int) : List PNd × Nat := match T[cur]? with
 | some n => match lookI c n.tr with
  | some j => (T,j)
  | none => (T.set cur { n with tr := n.tr ++ [(c,T.length)] } ++ [newNd c cur],T.length)
 | none => (T,cur)
noncomputable def addCh (T : List PNd) (cur : Nat) : List Int → List PNd × Nat
 | [] => (T,cur)
 | c :: r => addCh (stepT T cur c).1 (stepT T cur c).2 r
noncomputable def markT (T : List PNd) (i : Nat) (k : List Int) : List PNd := match T[i]? with
 | some n => T.set i { n with suc := true,kw := some k }
 | none => T
noncomputable def addT (T : List PNd) (k : List Int) : List PNd := if k = [] then T else markT (addCh T 0 k).1 (addCh T 0 k).2 k
noncomputable def trieOf (ws : List (List Int)) : List PNd := ws.foldl addT [root0]
noncomputable def trav (T : List PNd) (i : Nat) (c : Int) : Nat → Nat → Option Nat
 | 0,_ => none
 | f + 1,t => T[t]?.bind fun n => match lookI c n.tr with
  | some j => if j ≠ i then some j else if t = 0 then some 0 else n.lss.bind (trav T i c f)
  | none => if t = 0 then some 0 else n.lss.bind (trav T i c f)
noncomputable def mergeT (tr : List (Int × Nat)) : List (Int × Nat) → List (Int × Nat)
 | [] => tr
 | (c,j) :: r => mergeT (if (lookI c tr).isSome then tr else tr ++ [(c,j)]) r
theorem mergeT_append (l tr l' : List (Int × Nat)) : mergeT tr (l ++ l') = mergeT (mergeT tr l) l' := by
 induction l generalizing tr with
 | nil => rfl
 | cons p l ih => exact ih _
theorem mergeT_len (l tr : List (Int × Nat)) : tr.length ≤ (mergeT tr l).length := by
 induction l generalizing tr with
 | nil => exact Nat.le_refl _
 | cons p l ih =>
  refine Nat.le_trans ?_ (ih (if (lookI p.1 tr).isSome = true then tr else tr ++ [p]))
  by_cases h : (lookI p.1 tr).isSome = true
  ·rw [if_pos h]; exact Nat.le_refl _
  ·rw [if_neg h,List.length_append]; exact Nat.le_add_right _ _
theorem mergeT_take (tr l : List (Int × Nat)) (k : Nat) : (mergeT tr (l.take k)).length ≤ (mergeT tr l).length := by
 conv => rhs; rw [← List.take_append_drop k l,mergeT_append]
 exact mergeT_len _ _
theorem mergeT_succ {tr l : List (Int × Nat)} {k : Nat} {c : Int} {j : Nat} (h : l[k]? = some (c,j)) : mergeT tr (l.take (k + 1)) = if (lookI c (mergeT tr (l.take k))).isSome then mergeT tr (l.take k) else mergeT tr (l.take k) ++ [(c,j)] := by
 rw [List.take_add_one,h,mergeT_append]; rfl
noncomputable def lssT : Nat → List PNd → Nat → Option (List PNd)
 | 0,_,_ => none
 | f + 1,T,i => T[i]?.bind fun n => n.par.bind fun p => n.sym.bind fun c => T[p]?.bind fun np => np.lss.bind fun t0 => (trav T i c f t0).bind fun r =>
   let T1 := T.set i { n with lss := some r }
   if r = 0 then some T1 else T1[r]?.bind fun nr =>
    (match nr.lss with | none => lssT f T1 r | some _ => some T1).bind fun T2 =>
     T2[i]?.bind fun n2 => T2[r]?.bind fun nr2 =>
      if r ≠ i ∧ (mergeT n2.tr nr2.tr).length ≤ 900 then some (T2.set i { n2 with tr := mergeT n2.tr nr2.tr }) else none
noncomputable def lfcIn (F : Nat) (st : Nat) (L : Nat) (proc : List Nat) : List (Int × Nat) → List PNd → List Nat → Option (List PNd × List Nat)
 | [],T,stk => some (T,stk)
 | (_,j) :: r,T,stk => if j ∈ proc then lfcIn F st L proc r T stk else (lssT F T j).bind fun T' => T'[st]?.bind fun n' => if n'.tr.length = L ∧ stk.length ≤ 100000 then lfcIn F st L proc r T' (stk ++ [j]) else none
noncomputable def lfcT (F : Nat) : Nat → List Nat → List PNd → List Nat → Option (List PNd)
 | 0,_,_,_ => none
 | f + 1,proc,T,stk => stk.getLast?.elim (some T) fun st =>
  T[st]?.bind fun n => if proc.length ≤ 900 then (lfcIn F st n.tr.length (if st ∈ proc then proc else proc ++ [st]) n.tr T stk.dropLast).bind fun q => lfcT F f (if st ∈ proc then proc else proc ++ [st]) q.1 q.2 else none
noncomputable def outsOf (T : List PNd) : Nat → Nat → Option (List (List Int))
 | 0,_ => none
 | f + 1,j => if j = 0 then some [] else T[j]?.bind fun n => n.lss.bind fun l => (if n.suc then n.kw.bind fun k => if k.length ≤ 1000 then some [k] else none else some []).bind fun h => (outsOf T f l).map (h ++ ·)
noncomputable def setOuts (T : List PNd) (i : Nat) (l : List (List Int)) : List PNd := match T[i]? with
 | some n => T.set i { n with outs := some l }
 | none => T
noncomputable def preIn (F : Nat) (proc : List Nat) : List (Int × Nat) → List PNd → List Nat → Option (List PNd × List Nat)
 | [],T,stk => some (T,stk)
 | (_,j) :: r,T,stk => if j ∈ proc then preIn F proc r T stk else (outsOf T F j).bind fun l => if stk.length ≤ 100000 ∧ l.length ≤ 900 then preIn F proc r (setOuts T j l) (stk ++ [j]) else none
noncomputable def preT (F : Nat) : Nat → List Nat → List PNd → List Nat → Option (List PNd)
 | 0,_,_,_ => none
 | f + 1,proc,T,stk => stk.getLast?.elim (some T) fun st =>
  T[st]?.bind fun n => if proc.length ≤ 900 then (preIn F (if st ∈ proc then proc else proc ++ [st]) n.tr T stk.dropLast).bind fun q => preT F f (if st ∈ proc then proc else proc ++ [st]) q.1 q.2 else none
noncomputable def lss0 (T : List PNd) : List PNd := match T[0]? with
 | some n => T.set 0 { n with lss := some 0 }
 | none => T
noncomputable def finT (F D : Nat) (T : List PNd) : Option (List PNd) := (lfcT F D [] (lss0 T) [0]).bind fun T1 => preT F D [] (setOuts T1 0 []) [0]
noncomputable def goT (T : List PNd) (cur : Nat) (c : Int) : Nat := match T[cur]? with
 | some n => match lookI c n.tr with
  | some j => j
  | none => match T[0]? with
   | some z => (lookI c z.tr).getD 0
   | none => 0
 | none => 0
noncomputable def outAt (T : List PNd) (i : Nat) : List (List Int) := match T[i]? with
 | some n => if i = 0 then [] else n.outs.getD []
 | none => []
noncomputable def srchT (T : List PNd) : Nat → Nat → List Int → List (List Int × Int)
 | _,_,[] => []
 | idx,cur,c :: r => (outAt T (goT T cur c)).map (fun k => (k,(idx : Int) + 1 - k.length)) ++ srchT T (idx + 1) (goT T cur c) r
end
section
noncomputable def lend (p : List Int → Bool) : List Int → List Int
 | [] => []
 | c :: r => if p (c :: r) then c :: r else lend p r
section
variable {p : List Int → Bool}
theorem lend_hit {c : Int} {r : List Int} (h : p (c :: r) = true) : lend p (c :: r) = c :: r := if_pos h
theorem lend_miss {c : Int} {r : List Int} (h : ¬ p (c :: r) = true) : lend p (c :: r) = lend p r := if_neg h
theorem lend_suffix (x : List Int) : lend p x <:+ x := by
 induction x with
 | nil => exact List.suffix_refl _
 | cons c r ih =>
  by_cases h : p (c :: r) = true
  ·rw [lend_hit h]; exact List.suffix_refl _
  ·rw [lend_miss h]; exact ih.trans (List.suffix_cons _ _)
theorem lend_ok (x : List Int) : lend p x = [] ∨ p (lend p x) = true := by
 induction x with
 | nil => exact .inl rfl
 | cons c r ih =>
  by_cases h : p (c :: r) = true
  ·rw [lend_hit h]; exact .inr h
  ·rw [lend_miss h]; exact ih
theorem lend_max {x u : List Int} (h : u <:+ x) (hu : p u = true) : u <:+ lend p x := by
 induction x with
 | nil => exact h
 | cons c r ih =>
  by_cases hp : p (c :: r) = true
  ·rw [lend_hit hp]; exact h
  ·rw [lend_miss hp]
   exact (List.suffix_cons_iff.mp h).elim (fun e => absurd (e ▸ hu) hp) ih
theorem suffix_antisymm {a b : List Int} (h : a <:+ b) (h' : b <:+ a) : a = b := h.eq_of_length (Nat.le_antisymm h.length_le h'.length_le)
theorem lend_congr {x y : List Int} (h : ∀ u,p u = true → (u <:+ x ↔ u <:+ y)) : lend p x = lend p y := by
 apply suffix_antisymm
 ·rcases lend_ok (p := p) x with e | e
  ·rw [e]; exact List.nil_suffix
  ·exact lend_max ((h _ e).mp (lend_suffix x)) e
 ·rcases lend_ok (p := p) y with e | e
  ·rw [e]; exact List.nil_suffix
  ·exact lend_max ((h _ e).mpr (lend_suffix y)) e
theorem lend_self {x : List Int} (h : p x = true) : lend p x = x := by
 apply suffix_antisymm (lend_suffix x)
 exact lend_max (List.suffix_refl _) h
theorem suffix_concat {u x : List Int} {c : Int} : u <:+ x ++ [c] ↔ u = [] ∨ ∃ v,u = v ++ [c] ∧ v <:+ x := by
 constructor
 ·rintro ⟨w,hw⟩
  rcases List.eq_nil_or_concat u with e | ⟨v,d,e⟩
  ·exact .inl e
  ·rw [List.concat_eq_append] at e
   rw [e,← List.append_assoc] at hw
   have h := List.append_inj' hw rfl
   exact .inr ⟨v,e.trans (congrArg (v ++ ·) h.2),w,h.1⟩
 ·rintro (e | ⟨v,e,w,hw⟩)
  ·rw [e]; exact List.nil_suffix
  ·exact ⟨w,by rw [e,← List.append_assoc,hw]⟩
noncomputable def PreCl (p : List Int → Bool) : Prop := ∀ u c,p (u ++ [c]) = true → p u = true
theorem lend_step (hp : PreCl p) (x : List Int) (c : Int) : lend p (x ++ [c]) = lend p (lend p x ++ [c]) := by
 apply lend_congr
 intro u hu
 rw [suffix_concat,suffix_concat]
 constructor
 ·exact Or.imp_right (Exists.imp fun v h => ⟨h.1,lend_max h.2 (hp v c (h.1 ▸ hu))⟩)
 ·exact Or.imp_right (Exists.imp fun v h => ⟨h.1,h.2.trans (lend_suffix x)⟩)
theorem lend_tail {x : List Int} (h : p x = false) : lend p x = lend p x.tail := by
 cases x with
 | nil => rfl
 | cons c r =>
  show (if p (c :: r) = true then c :: r else lend p r) = lend p r
  rw [if_neg (by rw [h]; simp)]
end
end
section
theorem lookI_merge {c : Int} (l tr : List (Int × Nat)) : lookI c (mergeT tr l) = (lookI c tr).or (lookI c l) := by
 induction l generalizing tr with
 | nil => exact (Option.or_none).symm
 | cons p r ih =>
  refine (ih (if (lookI p.1 tr).isSome = true then tr else tr ++ [p])).trans ?_
  by_cases hs : (lookI p.1 tr).isSome = true
  ·rw [if_pos hs]
   by_cases hd : p.1 = c
   ·obtain ⟨k,hk⟩ := Option.isSome_iff_exists.mp hs
    rw [← hd,hk]; rfl
   ·rw [lookI_miss hd]
  ·rw [if_neg hs,lookI_append]
   by_cases hd : p.1 = c
   ·rw [lookI_hit hd,lookI_hit hd,← hd,Option.not_isSome_iff_eq_none.mp hs]; rfl
   ·rw [lookI_miss hd,lookI_miss hd]
    show ((lookI c tr).or none).or _ = _
    rw [Option.or_none]
theorem lookI_none {c : Int} {l : List (Int × Nat)} (h : lookI c l = none) : c ∉ l.map (·.1) := by
 induction l with
 | nil => exact List.not_mem_nil
 | cons p r ih =>
  by_cases hd : p.1 = c
  ·exact (Option.some_ne_none _ ((lookI_hit hd).symm.trans h)).elim
  ·exact fun hm => (List.mem_cons.mp hm).elim (fun e => hd e.symm) (ih ((lookI_miss hd).symm.trans h))
theorem lookI_of_mem {c : Int} {j : Nat} {l : List (Int × Nat)} (hn : (l.map (·.1)).Nodup) (h : (c,j) ∈ l) : lookI c l = some j := by
 induction l with
 | nil => exact absurd h List.not_mem_nil
 | cons p r ih =>
  have hn := List.nodup_cons.mp hn
  rcases List.mem_cons.mp h with e | h
  ·rw [← e]; exact if_pos rfl
  ·exact (lookI_miss fun e => hn.1 (List.mem_map.mpr ⟨(c,j),h,e.symm⟩)).trans (ih hn.2 h)
theorem merge_nodup (l tr : List (Int × Nat)) (h : (tr.map (·.1)).Nodup) : ((mergeT tr l).map (·.1)).Nodup := by
 induction l generalizing tr with
 | nil => exact h
 | cons p r ih =>
  refine ih (if (lookI p.1 tr).isSome = true then tr else tr ++ [p]) ?_
  by_cases hs : (lookI p.1 tr).isSome = true
  ·rw [if_pos hs]; exact h
  ·rw [if_neg hs,List.map_append]
   refine List.nodup_append.mpr ⟨h,List.pairwise_singleton _ _,fun a ha b hb e => ?_⟩
   exact lookI_none (Option.not_isSome_iff_eq_none.mp hs) ((e.trans (List.mem_singleton.mp hb : b = p.1)) ▸ ha)
theorem lenc {α : Type} {u : List α} {c : α} : (u ++ [c]).length = u.length + 1 := List.length_append
section
variable (W : List (List Int))
noncomputable def inW (x : List Int) : Bool := decide (x ∈ W)
structure WOk : Prop where
 z : W[0]? = some []
 nd : W.Nodup
 pre : ∀ u c,u ++ [c] ∈ W → u ∈ W
noncomputable abbrev le (x : List Int) : List Int := lend (inW W) x
structure RawTr (w : List Int) (tr : List (Int × Nat)) : Prop where
 nd : (tr.map (·.1)).Nodup
 at_ : ∀ c j,lookI c tr = some j ↔ W[j]? = some (w ++ [c])
structure FullTr (w : List Int) (tr : List (Int × Nat)) : Prop where
 nd : (tr.map (·.1)).Nodup
 at_ : ∀ c j,lookI c tr = some j ↔ W[j]? = some (le W (w ++ [c])) ∧ min 2 (w.length + 1) ≤ (le W (w ++ [c])).length
variable {W}
theorem WOk.inj (h : WOk W) {i j : Nat} {x : List Int} (hi : W[i]? = some x) (hj : W[j]? = some x) : i = j := by
 obtain ⟨a,ha⟩ := List.getElem?_eq_some_iff.mp hi
 obtain ⟨b,hb⟩ := List.getElem?_eq_some_iff.mp hj
 exact (List.getElem_inj h.nd).mp (ha.trans hb.symm)
theorem WOk.mem0 (h : WOk W) : [] ∈ W := List.mem_of_getElem? h.z
theorem WOk.pc (h : WOk W) : PreCl (inW W) := fun u c hu => by
 simp only [inW,decide_eq_true_eq] at hu ⊢
 exact h.pre u c hu
theorem WOk.le_mem (h : WOk W) (x : List Int) : le W x ∈ W := by
 rcases lend_ok (p := inW W) x with e | e
 ·show lend _ _ ∈ W; rw [e]; exact h.mem0
 ·simpa [inW] using e
theorem WOk.get (h : WOk W) (x : List Int) : ∃ j : Nat,W[j]? = some (le W x) := List.getElem?_of_mem (h.le_mem x)
theorem le_self {x : List Int} (h : x ∈ W) : le W x = x := lend_self (by simpa [inW] using h)
theorem le_tail {x : List Int} (h : x ∉ W) : le W x = le W x.tail := lend_tail (by simpa [inW] using h)
theorem WOk.le_step (h : WOk W) (x : List Int) (c : Int) : le W (x ++ [c]) = le W (le W x ++ [c]) := lend_step h.pc x c
theorem WOk.le_not (h : WOk W) {w : List Int} {c : Int} (hw : w ≠ []) (hn : w ++ [c] ∉ W) : le W (w ++ [c]) = le W (le W w.tail ++ [c]) := by
 rw [le_tail hn]
 cases w with
 | nil => exact absurd rfl hw
 | cons a r => exact h.le_step r c
theorem le_len (x : List Int) : (le W x).length ≤ x.length := (lend_suffix x).length_le
theorem lend_app1 {x : List Int} {c : Int} (hne : le W (x ++ [c]) ≠ []) : ∃ v,le W (x ++ [c]) = v ++ [c] ∧ v <:+ x := by
 rcases suffix_concat.mp (lend_suffix (p := inW W) (x ++ [c])) with e | e
 ·exact absurd e hne
 ·exact e
theorem RawTr.root (h : WOk W) {tr : List (Int × Nat)} (H : RawTr W [] tr) : FullTr W [] tr := by
 refine ⟨H.nd,fun c j => (H.at_ c j).trans ⟨fun e => ?_,fun ⟨e,hl⟩ => ?_⟩⟩
 ·rw [le_self (List.mem_of_getElem? e)]; exact ⟨e,Nat.le_refl _⟩
 ·by_cases hm : [] ++ [c] ∈ W
  ·rwa [le_self hm] at e
  ·rw [le_tail hm] at hl; exact (Nat.not_succ_le_zero _ hl).elim
theorem len2' {w : List Int} (hw : w ≠ []) : 2 ≤ w.length + 1 := Nat.succ_le_succ (List.length_pos_iff.mpr hw)
theorem min2 {w : List Int} (hw : w ≠ []) : min 2 (w.length + 1) = 2 := Nat.min_eq_left (len2' hw)
theorem RawTr.full0 (h : WOk W) {w : List Int} {tr : List (Int × Nat)} (hw : w ≠ []) (H : RawTr W w tr) (h0 : le W w.tail = []) : FullTr W w tr := by
 refine ⟨H.nd,fun c j => (H.at_ c j).trans ⟨fun e => ?_,fun q => ?_⟩⟩
 ·rw [le_self (List.mem_of_getElem? e)]; exact ⟨e,lenc ▸ Nat.min_le_right _ _⟩
 ·by_cases hm : w ++ [c] ∈ W
  ·rw [← le_self hm]; exact q.1
  ·have hl := q.2
   rw [min2 hw,h.le_not hw hm,h0] at hl
   exact (Nat.lt_irrefl _ (Nat.lt_of_lt_of_le (Nat.lt_of_lt_of_le (Nat.lt_succ_self 1) hl) (le_len ([] ++ [c])))).elim
theorem RawTr.merge (h : WOk W) {w : List Int} {tr l : List (Int × Nat)} (hw : w ≠ []) (H : RawTr W w tr) (h0 : le W w.tail ≠ []) (L : FullTr W (le W w.tail) l) : FullTr W w (mergeT tr l) := by
 refine ⟨merge_nodup _ _ H.nd,fun c j => ?_⟩
 rw [lookI_merge,min2 hw]
 by_cases hm : w ++ [c] ∈ W
 ·obtain ⟨k,hk⟩ := List.getElem?_of_mem hm
  rw [(H.at_ c k).mpr hk,le_self hm,Option.some_or]
  exact ⟨fun e => ⟨Option.some.inj e ▸ hk,lenc ▸ len2' hw⟩,fun e => congrArg some (h.inj hk e.1)⟩
 ·have hn : lookI c tr = none := Option.eq_none_iff_forall_ne_some.mpr fun k e => hm (List.mem_of_getElem? ((H.at_ c k).mp e))
  rw [hn,Option.none_or,L.at_,h.le_not hw hm,min2 h0]
theorem FullTr.merge (h : WOk W) {w : List Int} {tr l : List (Int × Nat)} (hw : w ≠ []) (H : FullTr W w tr) (h0 : le W w.tail ≠ []) (L : FullTr W (le W w.tail) l) : FullTr W w (mergeT tr l) := by
 refine ⟨merge_nodup _ _ H.nd,fun c j => ?_⟩
 have H := H.at_ c
 rw [min2 hw] at H ⊢
 rw [lookI_merge]
 cases e : lookI c tr with
 | some k =>
  have hk := (H k).mp e
  rw [Option.some_or]
  exact ⟨fun e => Option.some.inj e ▸ hk,fun q => congrArg some (h.inj hk.1 q.1)⟩
 | none =>
  rw [Option.none_or,L.at_,min2 h0]
  have hno : ¬ 2 ≤ (le W (w ++ [c])).length := fun h2 => by
   obtain ⟨k,hk⟩ := h.get (w ++ [c])
   exact Option.some_ne_none _ (((H k).mpr ⟨hk,h2⟩).symm.trans e)
  refine ⟨fun q => absurd ?_ hno,fun q => absurd q.2 hno⟩
  by_cases hm : w ++ [c] ∈ W
  ·rw [le_self hm,lenc]; exact len2' hw
  ·rw [h.le_not hw hm]; exact q.2
theorem FullTr.snd_nodup (h : WOk W) {w : List Int} {tr : List (Int × Nat)} (H : FullTr W w tr) : (tr.map (·.2)).Nodup := by
 have h1 : tr.Pairwise fun a b => a.1 ≠ b.1 := List.pairwise_map.mp H.nd
 refine List.pairwise_map.mpr (h1.imp_of_mem fun {a b} ha hb hne e => hne ?_)
 have ka := (H.at_ a.1 a.2).mp (lookI_of_mem H.nd ha)
 have kb := (H.at_ b.1 b.2).mp (lookI_of_mem H.nd hb)
 rw [e,kb.1] at ka
 have ee : le W (w ++ [b.1]) = le W (w ++ [a.1]) := Option.some.inj ka.1
 have na : le W (w ++ [a.1]) ≠ [] := fun z => Nat.not_succ_le_zero _ (Nat.le_trans (Nat.le_min.mpr ⟨Nat.le_of_lt (Nat.lt_succ_self 1),Nat.succ_le_succ (Nat.zero_le _)⟩) (z ▸ ka.2))
 have nb : le W (w ++ [b.1]) ≠ [] := by rw [ee]; exact na
 obtain ⟨u,hu,_⟩ := lend_app1 na
 obtain ⟨v,hv,_⟩ := lend_app1 nb
 rw [hu,hv] at ee
 exact (List.singleton_inj.mp (List.append_inj' ee rfl).2).symm
theorem nodup_le (N : Nat) {l : List Nat} (hn : l.Nodup) (h : ∀ x ∈ l,x < N) : l.length ≤ N := by
 induction N generalizing l with
 | zero => exact Nat.le_of_eq (List.length_eq_zero_iff.mpr (List.eq_nil_iff_forall_not_mem.mpr fun x hx => Nat.not_lt_zero _ (h x hx)))
 | succ N ih => exact Nat.le_trans (Nat.sub_le_iff_le_add.mp List.le_length_erase) (Nat.succ_le_succ (ih (hn.erase N) fun x hx => Nat.lt_of_le_of_ne (Nat.le_of_lt_succ (h x (List.mem_of_mem_erase hx))) fun e => List.Nodup.not_mem_erase hn (e ▸ hx)))
theorem FullTr.lt {w : List Int} {tr : List (Int × Nat)} (H : FullTr W w tr) : ∀ x ∈ tr.map (·.2),x < W.length := by
 intro x hx
 obtain ⟨a,ha,rfl⟩ := List.mem_map.mp hx
 exact (List.getElem?_eq_some_iff.mp ((H.at_ a.1 a.2).mp (lookI_of_mem H.nd ha)).1).1
theorem FullTr.len (h : WOk W) {w : List Int} {tr : List (Int × Nat)} (H : FullTr W w tr) : tr.length ≤ W.length := by
 have := nodup_le W.length (H.snd_nodup h) H.lt
 rwa [List.length_map] at this
end
end
section
section
variable (W : List (List Int))
structure Sta (w : List Int) (n : PNd) : Prop where
 up : ∀ (u : List Int) (c : Int),w = u ++ [c] → n.sym = some c ∧ ∃ p : Nat,n.par = some p ∧ W[p]? = some u
 rt : w = [] → n.par = none
structure RawN (w : List Int) (n : PNd) : Prop where
 lss : n.lss = none
 tr : RawTr W w n.tr
structure DoneN (w : List Int) (n : PNd) : Prop where
 lss : ∃ j : Nat,n.lss = some j ∧ W[j]? = some (le W w.tail)
 tr : FullTr W w n.tr
structure Below (T : List PNd) (m : Nat) : Prop where
 ok : ∀ (i : Nat) (w : List Int) (n : PNd),W[i]? = some w → T[i]? = some n → w.length < m → RawN W w n ∨ DoneN W w n
 cl : ∀ (i : Nat) (w : List Int) (n : PNd),W[i]? = some w → T[i]? = some n → w.length < m → DoneN W w n → ∀ (v : List Int) (j : Nat),v <:+ w → W[j]? = some v → ∃ n',T[j]? = some n' ∧ DoneN W v n'
variable {W}
theorem RawN.not {w : List Int} {n : PNd} (h : RawN W w n) (d : DoneN W w n) : False := by
 obtain ⟨j,hj,_⟩ := d.lss
 rw [h.lss] at hj; cases hj
theorem le_tail_lt {u : List Int} (hu : u ≠ []) : (le W u.tail).length < u.length := by
 refine Nat.lt_of_le_of_lt (le_len u.tail) ?_
 rw [List.length_tail]
 exact Nat.sub_lt (List.length_pos_iff.mpr hu) Nat.one_pos
theorem trav_spec (h : WOk W) {T : List PNd} {m i : Nat} {c : Int} (B : Below W T m) {u : List Int} (hi : W[i]? = some (u ++ [c])) (f : Nat) {t : Nat} {x : List Int} {n : PNd} (hf : x.length < f) (hx : x.length < u.length) (hm : x.length < m) (ht : W[t]? = some x) (hn : T[t]? = some n) (hd : DoneN W x n) : ∃ r,trav T i c f t = some r ∧ W[r]? = some (le W (x ++ [c])) := by
 induction f generalizing t x n with
 | zero => exact absurd hf (Nat.not_lt_zero _)
 | succ f ih =>
  show ∃ r,(T[t]?.bind _) = some r ∧ _
  rw [hn,Option.bind_some]
  cases hl : lookI c n.tr with
  | some j =>
   dsimp only
   have hj := (hd.tr.at_ c j).mp hl
   have hne : j ≠ i := fun e => by
    have h1 := le_len (W := W) (x ++ [c])
    rw [← Option.some.inj (hj.1.symm.trans (e ▸ hi)).symm,lenc,lenc] at h1
    exact Nat.not_lt_of_le (Nat.le_of_succ_le_succ h1) hx
   rw [if_pos hne]
   exact ⟨j,rfl,hj.1⟩
  | none =>
   dsimp only
   have hsm : (le W (x ++ [c])).length < min 2 (x.length + 1) := Nat.lt_of_not_le fun e => by
    obtain ⟨k,hk⟩ := h.get (x ++ [c])
    exact Option.some_ne_none _ (((hd.tr.at_ c k).mpr ⟨hk,e⟩).symm.trans hl)
   by_cases h0 : t = 0
   ·rw [if_pos h0]
    have hx0 : x = [] := Option.some.inj (ht.symm.trans (h0 ▸ h.z))
    refine ⟨0,rfl,?_⟩
    rw [hx0] at hsm ⊢
    rw [show le W ([] ++ [c]) = [] from List.length_eq_zero_iff.mp (Nat.lt_one_iff.mp hsm)]
    exact h.z
   ·rw [if_neg h0]
    have hx0 : x ≠ [] := fun e => h0 (h.inj ht (e ▸ h.z))
    have hnm : x ++ [c] ∉ W := fun hm => by
     rw [le_self hm,min2 hx0,lenc] at hsm
     exact Nat.not_lt_of_le (len2' hx0) hsm
    refine byG fun G9 k9 => ?_
    obtain ⟨j,hj,hjw⟩ := hd.lss
    have hxl2 := le_tail_lt (W := W) hx0
    obtain ⟨n',hn',hd'⟩ := B.cl t x n ht hn hm hd _ _ ((lend_suffix x.tail).trans (List.tail_suffix x)) hjw
    obtain ⟨r,hr,hrw⟩ := ih (Nat.lt_of_lt_of_le hxl2 (Nat.le_of_lt_succ hf)) (Nat.lt_trans hxl2 hx) (Nat.lt_trans hxl2 hm) hjw hn' hd'
    refine k9 ?_
    clear k9 G9
    exact ⟨r,by rw [hj]; exact hr,by rw [h.le_not hx0 hnm]; exact hrw⟩
theorem trav_ok (h : WOk W) {T : List PNd} {m i p : Nat} {c : Int} (B : Below W T m) {u : List Int} {np : PNd} (hi : W[i]? = some (u ++ [c])) (hp : W[p]? = some u) (hnp : T[p]? = some np) (hd : DoneN W u np) (hm : u.length < m) {f : Nat} (hf : u.length < f) :
  ∃ t0 r,np.lss = some t0 ∧ trav T i c f t0 = some r ∧ W[r]? = some (le W (u ++ [c]).tail) := by
 obtain ⟨t0,ht0,hw0⟩ := hd.lss
 by_cases hu : u = []
 ·subst hu
  refine ⟨t0,0,ht0,?_,h.z⟩
  have e0 : t0 = 0 := h.inj hw0 h.z
  have ep : p = 0 := h.inj hp h.z
  obtain ⟨f',e⟩ := Nat.exists_eq_succ_of_ne_zero (Nat.ne_of_gt hf)
  rw [e,e0]
  rw [ep] at hnp
  show (T[0]?.bind _) = some 0
  have hs := le_self (List.mem_of_getElem? hi)
  have hl : lookI c np.tr = some i := (hd.tr.at_ c i).mpr ⟨by rw [hs]; exact hi,by rw [hs]; exact Nat.le_refl _⟩
  rw [hnp,Option.bind_some,hl]
  dsimp only
  rw [if_neg (fun q => q rfl),if_pos rfl]
 ·have hxl2 := le_tail_lt (W := W) hu
  obtain ⟨n',hn',hd'⟩ := B.cl p u np hp hnp hm hd _ _ ((lend_suffix u.tail).trans (List.tail_suffix u)) hw0
  obtain ⟨r,hr,hrw⟩ := trav_spec h B hi f (Nat.lt_trans hxl2 hf) hxl2 (Nat.lt_trans hxl2 hm) hw0 hn' hd'
  refine ⟨t0,r,ht0,hr,?_⟩
  rw [hrw]
  cases u with
  | nil => exact absurd rfl hu
  | cons a r => exact congrArg some (h.le_step r c).symm
end
end
section
structure SameS (n n' : PNd) : Prop where
 sym : n'.sym = n.sym
 par : n'.par = n.par
 suc : n'.suc = n.suc
 kw : n'.kw = n.kw
 outs : n'.outs = n.outs
theorem SameS.rfl' {n : PNd} : SameS n n := ⟨rfl,rfl,rfl,rfl,rfl⟩
theorem SameS.trans {a b c : PNd} (h : SameS a b) (k : SameS b c) : SameS a c := ⟨k.sym.trans h.sym,k.par.trans h.par,k.suc.trans h.suc,k.kw.trans h.kw,k.outs.trans h.outs⟩
theorem some_eq {α : Type} {o : Option α} {a b : α} (h : o = some a) (k : o = some b) : a = b := Option.some.inj (h.symm.trans k)
theorem bind_of {α β : Type} {o : Option α} {a : α} {g : α → Option β} (h : o = some a) : o.bind g = g a := by rw [h]; rfl
section
variable {W : List (List Int)} {T T2 : List PNd} {m i r : Nat} {w v : List Int} {n n1 n2 : PNd}
theorem set_ne {i j : Nat} (hj : j ≠ i) : (T.set i n1)[j]? = T[j]? := List.getElem?_set_ne (Ne.symm hj)
theorem set_eq (hn : T[i]? = some n) : (T.set i n1)[i]? = some n1 := List.getElem?_set_self (List.getElem?_eq_some_iff.mp hn).1
theorem set_same (hn : T[i]? = some n) (s : SameS n n1) {j : Nat} {k : PNd} (hk : T[j]? = some k) : ∃ k',(T.set i n1)[j]? = some k' ∧ SameS k k' := by
 by_cases e : j = i
 ·rw [e] at hk ⊢; exact ⟨n1,set_eq hn,some_eq hn hk ▸ s⟩
 ·exact ⟨k,(set_ne e).trans hk,.rfl'⟩
theorem Sta.same {x : List Int} (h : Sta W x n) (s : SameS n n1) : Sta W x n1 := ⟨fun u c e => by rw [s.sym,s.par]; exact h.up u c e,fun e => s.par.trans (h.rt e)⟩
theorem in_of {x : List Int} (h : x ∈ W) : inW W x = true := decide_eq_true h
theorem suf_tail (h : WOk W) {j : Nat} (hi : W[i]? = some w) (hj : W[j]? = some v) (ej : j ≠ i) (hv : v <:+ w) : v <:+ le W w.tail := by
 refine lend_max ?_ (in_of (List.mem_of_getElem? hj))
 cases w with
 | nil => exact hv
 | cons a w => exact (List.suffix_cons_iff.mp hv).elim (fun q => absurd (h.inj hj (q ▸ hi)) ej) id
theorem below_less {T1 : List PNd} (B : Below W T m) (hi : W[i]? = some w) (hm : w.length ≤ m) (g : ∀ j,j ≠ i → T1[j]? = T[j]?) : Below W T1 w.length := by
 have key : ∀ {j : Nat} {x : List Int},W[j]? = some x → x.length < w.length → T1[j]? = T[j]? := fun hj hx => g _ fun e => absurd (some_eq (e ▸ hj) hi ▸ hx) (Nat.lt_irrefl _)
 refine ⟨fun i' w' n' hw' hn' hl => ?_,fun i' w' n' hw' hn' hl hd' v' j hv' hj => ?_⟩
 ·rw [key hw' hl] at hn'
  exact B.ok _ _ _ hw' hn' (Nat.lt_of_lt_of_le hl hm)
 ·rw [key hw' hl] at hn'
  rw [key hj (Nat.lt_of_le_of_lt hv'.length_le hl)]
  exact B.cl _ _ _ hw' hn' (Nat.lt_of_lt_of_le hl hm) hd' _ _ hv' hj
structure Mid (W : List (List Int)) (T : List PNd) (i : Nat) (w : List Int) (r : Nat) (T2 : List PNd) : Prop where
 len : T2.length = W.length
 st : ∀ (j : Nat) (n : PNd),T[j]? = some n → ∃ n',T2[j]? = some n' ∧ SameS n n'
 bel : Below W T2 w.length
 d : ∃ nr,T2[r]? = some nr ∧ DoneN W (le W w.tail) nr
 far : ∀ (j : Nat) (x : List Int),j ≠ i → W[j]? = some x → w.length ≤ x.length → T2[j]? = T[j]?
 keep : ∀ (j : Nat) (x : List Int) (n : PNd),j ≠ i → W[j]? = some x → T[j]? = some n → DoneN W x n → x.length < w.length → T2[j]? = some n
theorem Mid.rfl' (hlen : T.length = W.length) (B : Below W T m) (hi : W[i]? = some w) (hm : w.length ≤ m) (d : ∃ nr,T[r]? = some nr ∧ DoneN W (le W w.tail) nr) : Mid W T i w r T := ⟨hlen,fun j n hn => ⟨n,hn,.rfl'⟩,below_less B hi hm fun _ _ => rfl,d,fun _ _ _ _ _ => rfl,fun _ _ _ _ _ hk _ _ => hk⟩
theorem Mid.one (hlen : T.length = W.length) (B : Below W T m) (hi : W[i]? = some w) (hm : w.length ≤ m) (hn : T[i]? = some n) (s : SameS n n1) (hri : r ≠ i) (d : ∃ nr,T[r]? = some nr ∧ DoneN W (le W w.tail) nr) : Mid W T i w r (T.set i n1) :=
 ⟨List.length_set.trans hlen,fun _ _ hk => set_same hn s hk,below_less B hi hm fun _ => set_ne,d.imp fun _ q => ⟨(set_ne hri).trans q.1,q.2⟩,fun _ _ hj _ _ => set_ne hj,fun _ _ _ hj _ hk _ _ => (set_ne hj).trans hk⟩
theorem Mid.below (M : Mid W T i w r T2) (h : WOk W) (B : Below W T m) (hi : W[i]? = some w) (hne : w ≠ []) (hr : W[r]? = some (le W w.tail)) (hd : DoneN W w n2) : Below W (T2.set i n2) m := by
 have g1 : (T2.set i n2)[i]? = some n2 := List.getElem?_set_self (by rw [M.len]; exact (List.getElem?_eq_some_iff.mp hi).1)
 refine ⟨fun i' w' n' hw' hn' hm => ?_,fun i' w' n' hw' hn' hm hd' v' j hv' hj => ?_⟩
 ·by_cases e : i' = i
  ·rw [e] at hn' hw'
   rw [some_eq hn' g1,some_eq hw' hi]; exact .inr hd
  ·rw [set_ne e] at hn'
   rcases Nat.lt_or_ge w'.length w.length with q | q
   ·exact M.bel.ok _ _ _ hw' hn' q
   ·exact B.ok _ _ _ hw' ((M.far _ _ e hw' q).symm.trans hn') hm
 ·by_cases ej : j = i
  ·rw [ej] at hj ⊢
   exact ⟨_,g1,some_eq hi hj ▸ hd⟩
  ·rw [set_ne ej]
   by_cases e : i' = i
   ·rw [e] at hw'
    obtain ⟨nr,hnr,hdr⟩ := M.d
    exact M.bel.cl r _ nr hr hnr (le_tail_lt hne) hdr v' j (suf_tail h hi hj ej (some_eq hw' hi ▸ hv')) hj
   ·rw [set_ne e] at hn'
    rcases Nat.lt_or_ge w'.length w.length with q | q
    ·exact M.bel.cl _ _ _ hw' hn' q hd' _ _ hv' hj
    ·obtain ⟨n'',hn'',hd''⟩ := B.cl _ _ _ hw' ((M.far _ _ e hw' q).symm.trans hn') hm hd' _ _ hv' hj
     refine ⟨n'',?_,hd''⟩
     rcases Nat.lt_or_ge v'.length w.length with q2 | q2
     ·exact M.keep _ _ _ ej hj hn'' hd'' q2
     ·exact (M.far _ _ ej hj q2).trans hn''
structure LssR (W : List (List Int)) (T : List PNd) (m i : Nat) (w : List Int) (T' : List PNd) : Prop where
 len : T'.length = T.length
 st : ∀ (j : Nat) (n : PNd),T[j]? = some n → ∃ n',T'[j]? = some n' ∧ SameS n n'
 far : ∀ (j : Nat) (x : List Int),j ≠ i → W[j]? = some x → m ≤ x.length → T'[j]? = T[j]?
 keep : ∀ (j : Nat) (x : List Int) (n : PNd),j ≠ i → W[j]? = some x → T[j]? = some n → DoneN W x n → x.length < m → T'[j]? = some n
 bel : Below W T' m
 done : ∃ n',T'[i]? = some n' ∧ DoneN W w n'
theorem Mid.fin (M : Mid W T i w r T2) (h : WOk W) (hlen : T.length = W.length) (B : Below W T m) (hi : W[i]? = some w) (hm : w.length ≤ m) (hne : w ≠ []) (hn : T[i]? = some n) (s : SameS n n2) (hr : W[r]? = some (le W w.tail)) (hd : DoneN W w n2) : LssR W T m i w (T2.set i n2) := by
 have g1 : (T2.set i n2)[i]? = some n2 := List.getElem?_set_self (by rw [M.len]; exact (List.getElem?_eq_some_iff.mp hi).1)
 refine ⟨List.length_set.trans (M.len.trans hlen.symm),fun j k hk => ?_,fun j x hj hx hle => (set_ne hj).trans (M.far j x hj hx (Nat.le_trans hm hle)),fun j x k hj hx hk hd' hl' => (set_ne hj).trans ?_,M.below h B hi hne hr hd,⟨_,g1,hd⟩⟩
 ·by_cases e : j = i
  ·rw [e] at hk ⊢; exact ⟨n2,g1,some_eq hn hk ▸ s⟩
  ·rw [set_ne e]; exact M.st j k hk
 ·rcases Nat.lt_or_ge x.length w.length with q | q
  ·exact M.keep j x k hj hx hk hd' q
  ·exact (M.far j x hj hx q).trans hk
theorem Mid.call (R : LssR W (T.set i n1) w.length r (le W w.tail) T2) (hlen : T.length = W.length) (hn : T[i]? = some n) (s : SameS n n1) (hri : r ≠ i) (hr : W[r]? = some (le W w.tail)) (hne : w ≠ []) {nr : PNd} (hnr : T[r]? = some nr) (q : RawN W (le W w.tail) nr) : Mid W T i w r T2 := by
 refine ⟨R.len.trans (List.length_set.trans hlen),fun j k hk => ?_,R.bel,R.done,fun j x hj hx hle => (R.far j x (fun e => ?_) hx hle).trans (set_ne hj),fun j x k hj hx hk hd hl => ?_⟩
 ·obtain ⟨k1,hk1,s1⟩ := set_same hn s hk
  exact (R.st j k1 hk1).imp fun _ q => ⟨q.1,s1.trans q.2⟩
 ·rw [e] at hx
  rw [some_eq hx hr] at hle
  exact Nat.not_le_of_lt (le_tail_lt hne) hle
 ·by_cases e : j = r
  ·rw [e] at hx hk
   rw [some_eq hx hr,some_eq hk hnr] at hd
   exact (q.not hd).elim
  ·exact R.keep j x k e hx ((set_ne hj).trans hk) hd hl
noncomputable def lssE (f : Nat) (T1 : List PNd) (i r : Nat) : Option (List PNd) := if r = 0 then some T1 else T1[r]?.bind fun nr =>
 (match nr.lss with | none => lssT f T1 r | some _ => some T1).bind fun T2 =>
  T2[i]?.bind fun n2 => T2[r]?.bind fun nr2 =>
   if r ≠ i ∧ (mergeT n2.tr nr2.tr).length ≤ 900 then some (T2.set i { n2 with tr := mergeT n2.tr nr2.tr }) else none
theorem lssT_eq {f p t0 : Nat} {c : Int} {np : PNd} (hn : T[i]? = some n) (hp : n.par = some p) (hs : n.sym = some c) (hnp : T[p]? = some np) (ht : np.lss = some t0) (hr : trav T i c f t0 = some r) : lssT (f + 1) T i = lssE f (T.set i { n with lss := some r }) i r :=
 (bind_of hn).trans ((bind_of hp).trans ((bind_of hs).trans ((bind_of hnp).trans ((bind_of ht).trans (bind_of hr)))))
theorem lss_tail {f : Nat} (h : WOk W) (hN : W.length ≤ 900) (hlen : T.length = W.length) (B : Below W T m) (hi : W[i]? = some w) (hm : w.length < m) (hne : w ≠ []) (hn : T[i]? = some n) (s : SameS n n1) (et : n1.tr = n.tr) (el : n1.lss = some r) (hr : W[r]? = some (le W w.tail)) (dz : ∃ nr,T[0]? = some nr ∧ DoneN W [] nr)
  (rec : le W w.tail ≠ [] → ∃ T2,lssT f (T.set i n1) r = some T2 ∧ LssR W (T.set i n1) w.length r (le W w.tail) T2) : ∃ T',lssE f (T.set i n1) i r = some T' ∧ LssR W T m i w T' := by
 have hm' := Nat.le_of_lt hm
 have hio := B.ok i _ n hi hn hm
 unfold lssE
 by_cases h0 : r = 0
 ·rw [if_pos h0]
  have hv0 : le W w.tail = [] := some_eq hr (h0 ▸ h.z)
  refine ⟨_,rfl,(Mid.rfl' (r := r) hlen B hi hm' ?_).fin h hlen B hi hm' hne hn s hr ⟨⟨r,el,hr⟩,?_⟩⟩
  ·rw [h0,hv0]; exact dz
  ·rw [et]; exact hio.elim (fun q => q.tr.full0 h hne hv0) fun q => q.tr
 ·have hri : r ≠ i := fun e => absurd (some_eq hr (e ▸ hi) ▸ le_tail_lt hne) (Nat.lt_irrefl _)
  have hv0 : le W w.tail ≠ [] := fun e => h0 (h.inj hr (e ▸ h.z))
  obtain ⟨nr,hnr⟩ : ∃ nr,T[r]? = some nr := ⟨_,List.getElem?_eq_getElem (by rw [hlen]; exact (List.getElem?_eq_some_iff.mp hr).1)⟩
  have hT2 : ∃ T2,(match nr.lss with | none => lssT f (T.set i n1) r | some _ => some (T.set i n1)) = some T2 ∧ T2[i]? = some n1 ∧ Mid W T i w r T2 := by
   rcases B.ok r _ nr hr hnr (Nat.lt_trans (le_tail_lt hne) hm) with q | q
   ·obtain ⟨T2,e2,R⟩ := rec hv0
    exact ⟨T2,by rw [q.lss]; exact e2,(R.far i w (Ne.symm hri) hi (Nat.le_refl _)).trans (set_eq hn),.call R hlen hn s hri hr hne hnr q⟩
   ·obtain ⟨l,hl,_⟩ := q.lss
    exact ⟨_,by rw [hl],set_eq hn,.one hlen B hi hm' hn s hri ⟨nr,hnr,q⟩⟩
  refine byG fun G9 k9 => ?_
  obtain ⟨T2,e2,i2,M⟩ := hT2
  obtain ⟨nr2,r2,d2⟩ := M.d
  refine k9 ?_
  clear k9 G9
  have hfull : FullTr W w (mergeT n1.tr nr2.tr) := et ▸ hio.elim (fun q => q.tr.merge h hne hv0 d2.tr) fun q => q.tr.merge h hne hv0 d2.tr
  exact ⟨_,(if_neg h0).trans ((bind_of ((set_ne hri).trans hnr)).trans ((bind_of e2).trans ((bind_of i2).trans ((bind_of r2).trans (if_pos ⟨hri,Nat.le_trans (hfull.len h) hN⟩))))),M.fin h hlen B hi hm' hne hn ⟨s.sym,s.par,s.suc,s.kw,s.outs⟩ hr ⟨⟨r,el,hr⟩,hfull⟩⟩
theorem tail_app {u : List Int} {c : Int} (h : le W (u ++ [c]).tail ≠ []) : ∃ v,le W (u ++ [c]).tail = v ++ [c] ∧ v <:+ u := by
 cases u with
 | nil => exact absurd rfl h
 | cons a u => exact (lend_app1 (W := W) (x := u) (c := c) h).imp fun _ q => ⟨q.1,q.2.trans (List.suffix_cons _ _)⟩
theorem lss_spec (h : WOk W) (hN : W.length ≤ 900) (f m : Nat) (T : List PNd) (i : Nat) (u : List Int) (c : Int) (hlen : T.length = W.length) (hst : ∀ (j : Nat) (x : List Int) (n : PNd),W[j]? = some x → T[j]? = some n → Sta W x n) (B : Below W T m) (hi : W[i]? = some (u ++ [c])) (hm : u.length + 1 < m)
  (hpar : ∃ (p : Nat) (np : PNd),W[p]? = some u ∧ T[p]? = some np ∧ DoneN W u np) (hf : u.length + 1 < f) : ∃ T',lssT f T i = some T' ∧ LssR W T m i (u ++ [c]) T' := by
 induction f generalizing m T i u with
 | zero => exact absurd hf (Nat.not_lt_zero _)
 | succ f ih =>
  refine byG fun G9 k9 => ?_
  obtain ⟨p,np,hp,hnp,hdp⟩ := hpar
  obtain ⟨n,hn⟩ : ∃ n,T[i]? = some n := ⟨_,List.getElem?_eq_getElem (by rw [hlen]; exact (List.getElem?_eq_some_iff.mp hi).1)⟩
  obtain ⟨hsym,p',hp',hwp'⟩ := (hst i _ n hi hn).up u c rfl
  have hmu := Nat.lt_of_succ_lt hm
  obtain ⟨t0,r,ht0,hr,hrw⟩ := trav_ok h B hi hp hnp hdp hmu (Nat.lt_of_succ_lt_succ hf)
  refine k9 ?_
  clear k9 G9
  rw [lssT_eq hn (h.inj hwp' hp ▸ hp') hsym hnp ht0 hr]
  have s : SameS n { n with lss := some r } := ⟨rfl,rfl,rfl,rfl,rfl⟩
  have hwl : (u ++ [c]).length < m := by rw [lenc]; exact hm
  refine lss_tail h hN hlen B hi hwl (List.append_ne_nil_of_right_ne_nil _ (List.cons_ne_nil _ _)) hn s rfl rfl hrw (B.cl p u np hp hnp hmu hdp [] 0 List.nil_suffix h.z) fun hv0 => ?_
  obtain ⟨v0,hv1,hv2⟩ := tail_app hv0
  rw [hv1] at hrw ⊢
  have hvl := le_tail_lt (W := W) (List.append_ne_nil_of_right_ne_nil u (List.cons_ne_nil c []))
  rw [hv1,lenc,lenc] at hvl
  obtain ⟨k,hk⟩ := List.getElem?_of_mem (h.pre _ _ (List.mem_of_getElem? hrw))
  obtain ⟨nk,hnk,hdk⟩ := B.cl p u np hp hnp hmu hdp v0 k hv2 hk
  have hki : k ≠ i := fun e => by
   have := congrArg List.length (some_eq (e ▸ hk) hi)
   rw [lenc] at this
   exact Nat.not_succ_le_self _ (Nat.le_trans (Nat.le_of_eq this.symm) hv2.length_le)
  refine ih (u ++ [c]).length (T.set i { n with lss := some r }) r v0 (List.length_set.trans hlen) (fun j x k' hx hk' => ?_) (below_less B hi (Nat.le_of_lt hwl) fun _ => set_ne) hrw (by rw [lenc]; exact hvl) ⟨k,nk,hk,(set_ne hki).trans hnk,hdk⟩ (Nat.lt_of_lt_of_le hvl (Nat.le_of_lt_succ hf))
  by_cases e : j = i
  ·rw [e] at hk' hx
   rw [some_eq hk' (set_eq hn)]
   exact (hst i x n hx hn).same s
  ·exact hst j x k' hx ((set_ne e).symm.trans hk')
end
end
section
structure DI (ch : Nat → Nat → Prop) (N : Nat) (proc stk : List Nat) : Prop where
 nd : proc.Nodup
 lt : ∀ x ∈ proc,x < N
 cov : ∀ s ∈ proc,∀ j,ch s j → j ∈ proc ∨ j ∈ stk
 top : ∀ (pre : List Nat) (s : Nat) (post : List Nat),stk = pre ++ s :: post → s ∈ proc → ∀ j,ch s j → j ∈ proc ∨ j ∈ post
 root : 0 ∈ proc ∨ 0 ∈ stk
noncomputable def dm (N : Nat) (proc stk : List Nat) : Nat := (N - proc.length) * (N + 2) + stk.length
section
variable {ch : Nat → Nat → Prop} {N st : Nat} {proc stk P F pre0 : List Nat}
theorem DI.init : DI ch N [] [0] := ⟨List.nodup_nil,fun _ h => absurd h List.not_mem_nil,fun _ h => absurd h List.not_mem_nil,fun _ _ _ _ h => absurd h List.not_mem_nil,.inr List.mem_cons_self⟩
theorem DI.size (h : DI ch N proc stk) : proc.length ≤ N := nodup_le N h.nd h.lt
noncomputable def addP (proc : List Nat) (st : Nat) : List Nat := if st ∈ proc then proc else proc ++ [st]
theorem addP_in (h : st ∈ proc) : addP proc st = proc := if_pos h
theorem addP_out (h : st ∉ proc) : addP proc st = proc ++ [st] := if_neg h
theorem mem_addP {x st : Nat} : x ∈ addP proc st ↔ x ∈ proc ∨ x = st := by
 by_cases h : st ∈ proc
 ·rw [addP_in h]; exact ⟨.inl,fun e => e.elim id fun e => e ▸ h⟩
 ·rw [addP_out h,List.mem_append,List.mem_singleton]
theorem DI.go (h : DI ch N proc (pre0 ++ [st])) (hst : st < N) (hP : ∀ x,x ∈ P ↔ x ∈ proc ∨ x = st) (hn : P.Nodup) (hF : ∀ j,j ∈ F → j ∉ P) (kid : ∀ j,ch st j → j ∈ P ∨ j ∈ F) : DI ch N P (pre0 ++ F) := by
 have up : ∀ {j : Nat} {L : List Nat},j ∈ proc ∨ j ∈ L ++ [st] → j ∈ P ∨ j ∈ L ++ F := fun q => q.elim (fun q => .inl ((hP _).mpr (.inl q))) fun q => (List.mem_append.mp q).elim (fun q => .inr (List.mem_append_left _ q)) fun q => .inl ((hP _).mpr (.inr (List.mem_singleton.mp q)))
 have kid' : ∀ {j s : Nat} {L : List Nat},s = st → ch s j → j ∈ P ∨ j ∈ L ++ F := fun q hj => (kid _ (q ▸ hj)).imp id (List.mem_append_right _)
 refine ⟨hn,fun x hx => ((hP x).mp hx).elim (h.lt x) fun q => q ▸ hst,fun s hs j hj => ((hP s).mp hs).elim (fun q => up (h.cov s q j hj)) fun q => kid' q hj,fun pre s post e hs j hj => ?_,up h.root⟩
 rcases List.append_eq_append_iff.mp e with ⟨a,e1,e2⟩ | ⟨a,e1,e2⟩
 ·exact (hF s (e2 ▸ List.mem_append_right _ List.mem_cons_self) hs).elim
 ·cases a with
  | nil => exact (hF s ((show s :: post = F from e2) ▸ List.mem_cons_self) hs).elim
  | cons b a =>
   rw [(List.cons.inj e2).2]
   refine ((hP s).mp hs).elim (fun q => up (h.top pre s (a ++ [st]) ?_ q j hj)) fun q => kid' q hj
   rw [e1,List.append_assoc,(List.cons.inj e2).1]; rfl
theorem dm_nat {a N p q : Nat} (hq : q ≤ N) : a * (N + 2) + (p + q) < (a + 1) * (N + 2) + (p + 1) := by
 rw [Nat.add_mul,Nat.one_mul,Nat.add_assoc]
 refine Nat.add_lt_add_left (Nat.lt_of_le_of_lt (Nat.add_le_add_left hq p) ?_) _
 rw [Nat.add_comm p N,Nat.add_add_add_comm]
 exact Nat.lt_add_of_pos_right (Nat.succ_pos _)
theorem DI.step {l : List Nat} (h : DI ch N proc (pre0 ++ [st])) (hst : st < N) (hl : ∀ j,j ∈ l ↔ ch st j) (hN : l.length ≤ N) :
  DI ch N (addP proc st) (pre0 ++ l.filter (fun j => decide (j ∉ addP proc st))) ∧ dm N (addP proc st) (pre0 ++ l.filter (fun j => decide (j ∉ addP proc st))) < dm N proc (pre0 ++ [st]) := by
 have hF : ∀ j,j ∈ l.filter (fun j => decide (j ∉ addP proc st)) ↔ j ∈ l ∧ j ∉ addP proc st := fun j => by rw [List.mem_filter,decide_eq_true_iff]
 have hnd : (addP proc st).Nodup := by
  by_cases hn : st ∈ proc
  ·rw [addP_in hn]; exact h.nd
  ·rw [addP_out hn]
   exact List.nodup_append.mpr ⟨h.nd,List.pairwise_singleton _ _,fun a ha b hb e => hn ((e.trans (List.mem_singleton.mp hb)) ▸ ha)⟩
 have hdi := h.go hst (fun x => mem_addP (x := x)) hnd (fun j q => ((hF j).mp q).2) fun j hj => (Decidable.em (j ∈ addP proc st)).imp id fun e => (hF j).mpr ⟨(hl j).mpr hj,e⟩
 refine ⟨hdi,?_⟩
 have hz := hdi.size
 unfold dm
 rw [List.length_append,List.length_append]
 by_cases hs : st ∈ proc
 ·rw [addP_in hs] at hF ⊢
  rw [List.eq_nil_iff_forall_not_mem.mpr fun j q => ((hF j).mp q).2 ((h.top pre0 st [] rfl hs j ((hl j).mp ((hF j).mp q).1)).elim id fun q => absurd q List.not_mem_nil)]
  exact Nat.lt_succ_self _
 ·have e1 : (addP proc st).length = proc.length + 1 := by rw [addP_out hs]; exact lenc
  have e3 : N - proc.length = N - (addP proc st).length + 1 := by
   rw [e1] at hz ⊢
   exact (Nat.sub_add_cancel (Nat.sub_pos_of_lt hz)).symm
  rw [e3]
  exact dm_nat (Nat.le_trans (List.length_filter_le _ _) hN)
theorem DI.all (h : DI ch N proc []) {R : Nat → Prop} {μ : Nat → Nat} (h0 : ∀ j,R j → j = 0 ∨ ∃ i,R i ∧ ch i j ∧ μ i < μ j) (m j : Nat) (hm : μ j < m) (hj : R j) : j ∈ proc := by
 induction m generalizing j with
 | zero => exact absurd hm (Nat.not_lt_zero _)
 | succ m ih =>
  rcases h0 j hj with e | ⟨i,hi,hc,hlt⟩
  ·rw [e]; exact h.root.elim id fun q => absurd q List.not_mem_nil
  ·exact (h.cov i (ih i (Nat.lt_of_lt_of_le hlt (Nat.le_of_lt_succ hm)) hi) j hc).elim id fun q => absurd q List.not_mem_nil
end
end
section
section
variable (W : List (List Int))
noncomputable def chW (s j : Nat) : Prop := ∃ (w : List Int) (c : Int),W[s]? = some w ∧ W[j]? = some (le W (w ++ [c])) ∧ min 2 (w.length + 1) ≤ (le W (w ++ [c])).length
structure FI (M : Nat) (T : List PNd) : Prop where
 len : T.length = W.length
 sta : ∀ (j : Nat) (x : List Int) (n : PNd),W[j]? = some x → T[j]? = some n → Sta W x n
 bel : Below W T M
noncomputable def DoneAt (T : List PNd) (j : Nat) : Prop := ∃ (x : List Int) (n : PNd),W[j]? = some x ∧ T[j]? = some n ∧ DoneN W x n
structure FR (T T' : List PNd) : Prop where
 st : ∀ (j : Nat) (n : PNd),T[j]? = some n → ∃ n',T'[j]? = some n' ∧ SameS n n'
 keep : ∀ j,DoneAt W T j → DoneAt W T' j
variable {W}
theorem FR.rfl' {T : List PNd} : FR W T T := ⟨fun _ n h => ⟨n,h,SameS.rfl'⟩,fun _ h => h⟩
theorem FR.trans {a b c : List PNd} (h : FR W a b) (k : FR W b c) : FR W a c := ⟨fun j n e => by
 obtain ⟨n1,e1,s1⟩ := h.st j n e
 obtain ⟨n2,e2,s2⟩ := k.st j n1 e1
 exact ⟨n2,e2,s1.trans s2⟩,fun j e => k.keep j (h.keep j e)⟩
theorem FullTr.kids {s : Nat} {w : List Int} {tr : List (Int × Nat)} (H : FullTr W w tr) (hs : W[s]? = some w) (j : Nat) : j ∈ tr.map (·.2) ↔ chW W s j := by
 constructor
 ·intro hj
  obtain ⟨a,ha,e⟩ := List.mem_map.mp hj
  exact ⟨w,a.1,hs,(H.at_ a.1 j).mp (lookI_of_mem H.nd (e ▸ ha))⟩
 ·rintro ⟨w',c,hw',hj⟩
  rw [some_eq hw' hs] at hj
  exact List.mem_map.mpr ⟨(c,j),lookI_mem ((H.at_ c j).mpr hj),rfl⟩
theorem LssR.fr {T T' : List PNd} {M j : Nat} {w : List Int} (R : LssR W T M j w T') (hM : ∀ w ∈ W,w.length < M) (hj : W[j]? = some w) : DoneAt W T' j ∧ FR W T T' := by
 have hd : DoneAt W T' j := R.done.elim fun n' q => ⟨_,n',hj,q⟩
 refine ⟨hd,R.st,fun i q => ?_⟩
 by_cases ei : i = j
 ·rw [ei]; exact hd
 ·obtain ⟨y,m,hy,hm,hdm⟩ := q
  exact ⟨y,m,hy,R.keep i y m ei hy hm hdm (hM _ (List.mem_of_getElem? hy)),hdm⟩
theorem LssR.fi {T T' : List PNd} {M j : Nat} {w : List Int} (R : LssR W T M j w T') (I : FI W M T) : FI W M T' := by
 refine ⟨R.len.trans I.len,fun i y m hy hm => ?_,R.bel⟩
 have hil : i < T.length := R.len ▸ (List.getElem?_eq_some_iff.mp hm).1
 obtain ⟨m',hm',s⟩ := R.st i _ (List.getElem?_eq_getElem hil)
 rw [some_eq hm hm']
 exact (I.sta i y _ hy (List.getElem?_eq_getElem hil)).same s
theorem lss_kid (h : WOk W) (hN : W.length ≤ 900) {M F : Nat} (hM : ∀ w ∈ W,w.length < M) (hF : ∀ w ∈ W,w.length < F) {T : List PNd} (I : FI W M T) {st j : Nat} {x : List Int} {n : PNd} (hx : W[st]? = some x) (hn : T[st]? = some n) (hd : DoneN W x n) (hj : chW W st j) (hne : st ≠ j) :
  ∃ T',lssT F T j = some T' ∧ FI W M T' ∧ FR W T T' ∧ DoneAt W T' j ∧ T'[st]? = some n := by
 obtain ⟨w,c,hw,hjw,hl⟩ := hj
 rw [some_eq hw hx] at hjw hl
 have hne0 : le W (x ++ [c]) ≠ [] := fun e => by
  rw [e] at hl
  exact Nat.not_succ_le_zero _ (Nat.le_trans (Nat.le_min.mpr ⟨Nat.le_of_lt (Nat.lt_succ_self 1),Nat.succ_le_succ (Nat.zero_le _)⟩) hl)
 refine byG fun G9 k9 => ?_
 obtain ⟨v,hv,hvx⟩ := lend_app1 hne0
 rw [hv] at hjw
 have hmem := List.mem_of_getElem? hjw
 obtain ⟨k,hk⟩ := List.getElem?_of_mem (h.pre _ _ hmem)
 obtain ⟨nk,hnk,hdk⟩ := I.bel.cl st x n hx hn (hM _ (List.mem_of_getElem? hx)) hd v k hvx hk
 obtain ⟨T',e,R⟩ := lss_spec h hN F M T j v c I.len I.sta I.bel hjw (lenc ▸ hM _ hmem) ⟨k,nk,hk,hnk,hdk⟩ (lenc ▸ hF _ hmem)
 have fr := R.fr hM hjw
 exact k9 ⟨T',e,R.fi I,fr.2,fr.1,R.keep st x n hne hx hn hd (hM _ (List.mem_of_getElem? hx))⟩
theorem lfcIn_spec (h : WOk W) (hN : W.length ≤ 900) {M F : Nat} (hM : ∀ w ∈ W,w.length < M) (hF : ∀ w ∈ W,w.length < F) {st : Nat} {x : List Int} {n : PNd} {proc : List Nat} (hx : W[st]? = some x) (hd : DoneN W x n) (hp : st ∈ proc) (r : List (Int × Nat)) (T : List PNd) (stk : List Nat) (I : FI W M T) (hn : T[st]? = some n) (hch : ∀ a ∈ r,chW W st a.2) (hz : stk.length + r.length ≤ 100000) :
  ∃ T',lfcIn F st n.tr.length proc r T stk = some (T',stk ++ (r.map (·.2)).filter fun j => decide (j ∉ proc)) ∧ FI W M T' ∧ FR W T T' ∧ ∀ j ∈ r.map (·.2),j ∉ proc → DoneAt W T' j := by
 induction r generalizing T stk with
 | nil => exact ⟨T,congrArg (fun l => some (T,l)) (List.append_nil stk).symm,I,FR.rfl',fun _ h => absurd h List.not_mem_nil⟩
 | cons a r ih =>
  have hch' : ∀ a ∈ r,chW W st a.2 := fun a ha => hch a (List.mem_cons_of_mem _ ha)
  have hz' : stk.length + 1 + r.length ≤ 100000 := by rw [Nat.add_right_comm]; exact hz
  by_cases hj : a.2 ∈ proc
  ·refine byG fun G9 k9 => ?_
   obtain ⟨T',e,I',R,D⟩ := ih T stk I hn hch' (Nat.le_of_succ_le hz)
   refine k9 ⟨T',(if_pos hj).trans (e.trans ?_),I',R,fun k hk hkp => (List.mem_cons.mp hk).elim (fun q => absurd (q ▸ hj) hkp) fun q => D k q hkp⟩
   rw [List.map_cons,List.filter_cons_of_neg (p := fun j => decide (j ∉ proc)) (by rw [decide_eq_true_iff]; exact fun q => q hj)]
  ·refine byG fun G9 k9 => ?_
   obtain ⟨T1,e1,I1,R1,D1,n1⟩ := lss_kid h hN hM hF I hx hn hd (hch a List.mem_cons_self) (fun e => hj (e ▸ hp))
   obtain ⟨T',e,I',R,D⟩ := ih T1 (stk ++ [a.2]) I1 n1 hch' (by rw [lenc]; exact hz')
   refine k9 ⟨T',(if_neg hj).trans ((bind_of e1).trans ((bind_of n1).trans ((if_pos ⟨rfl,Nat.le_of_succ_le (Nat.le_trans (Nat.le_add_right _ _) hz')⟩).trans (e.trans ?_)))),I',R1.trans R,fun k hk hkp => (List.mem_cons.mp hk).elim (fun q => q ▸ R.keep _ D1) fun q => D k q hkp⟩
   rw [List.map_cons,List.filter_cons_of_pos (p := fun j => decide (j ∉ proc)) (decide_eq_true hj),List.append_assoc]; rfl
theorem all_done (h : WOk W) {proc : List Nat} (D : DI (chW W) W.length proc []) {j : Nat} {x : List Int} (hx : W[j]? = some x) : j ∈ proc := by
 refine D.all (R := fun j => ∃ x,W[j]? = some x) (μ := fun j => (W[j]?.getD []).length) (fun k ⟨y,hy⟩ => ?_) _ j (Nat.lt_succ_self _) ⟨x,hx⟩
 rcases List.eq_nil_or_concat y with e | ⟨u,c,e⟩
 ·exact .inl (h.inj hy (e ▸ h.z))
 ·rw [List.concat_eq_append] at e
  rw [e] at hy
  have hmem := List.mem_of_getElem? hy
  obtain ⟨i,hi⟩ := List.getElem?_of_mem (h.pre _ _ hmem)
  have hs := le_self hmem
  refine .inr ⟨i,⟨u,hi⟩,⟨u,c,hi,by rw [hs]; exact hy,by rw [hs,lenc]; exact Nat.min_le_right _ _⟩,?_⟩
  rw [hi,hy]
  exact Nat.lt_of_lt_of_eq (Nat.lt_succ_self _) lenc.symm
theorem dm_stk {N : Nat} {proc stk : List Nat} {x : Nat} (h : dm N proc stk ≤ x) : stk.length ≤ x := Nat.le_trans (Nat.le_add_left _ _) h
theorem last_app {stk : List Nat} {st : Nat} (h : stk.getLast? = some st) : stk.dropLast ++ [st] = stk := by
 obtain ⟨ys,e⟩ := List.getLast?_eq_some_iff.mp h
 rw [e,List.dropLast_concat]
theorem go_all {A B : Nat → Prop} {proc l stk : List Nat} {st : Nat} (R : ∀ j,A j → B j) (hd : ∀ j,j ∈ proc ∨ j ∈ stk ++ [st] → A j) (D1 : ∀ j ∈ l,j ∉ addP proc st → B j) : ∀ j,j ∈ addP proc st ∨ j ∈ stk ++ l.filter (fun j => decide (j ∉ addP proc st)) → B j := by
 refine fun j q => q.elim (fun q => R j (hd j ((mem_addP.mp q).elim .inl fun q => .inr (q ▸ List.mem_append_right _ List.mem_cons_self)))) fun q => (List.mem_append.mp q).elim (fun q => R j (hd j (.inr (List.mem_append_left _ q)))) fun q => ?_
 have := List.mem_filter.mp q
 exact D1 j this.1 (of_decide_eq_true this.2)
theorem dm_le {N : Nat} (hN : N ≤ 900) {x y : Nat} (hx : x ≤ 90000) (hy : y ≤ N) : x + y ≤ 100000 := Nat.le_trans (Nat.add_le_add hx (Nat.le_trans hy hN)) (by decide)
theorem lfcT_spec (h : WOk W) (hN : W.length ≤ 900) {M F : Nat} (hM : ∀ w ∈ W,w.length < M) (hF : ∀ w ∈ W,w.length < F) (f : Nat) (proc : List Nat) (T : List PNd) (stk : List Nat) (hf : dm W.length proc stk < f) (hm : dm W.length proc stk ≤ 90000) (D : DI (chW W) W.length proc stk) (I : FI W M T) (hd : ∀ j,j ∈ proc ∨ j ∈ stk → DoneAt W T j) :
  ∃ T',lfcT F f proc T stk = some T' ∧ FI W M T' ∧ FR W T T' ∧ ∀ j x,W[j]? = some x → DoneAt W T' j := by
 induction f generalizing proc T stk with
 | zero => exact absurd hf (Nat.not_lt_zero _)
 | succ f ih =>
  cases hs : stk.getLast? with
  | none =>
   have hs' := hs
   rw [List.getLast?_eq_none_iff] at hs
   rw [hs] at D
   exact ⟨T,elim_none hs',I,FR.rfl',fun j x hx => hd j (.inl (all_done h D hx))⟩
  | some st =>
   have hsp := last_app hs
   rw [← hsp] at D hf hm hd
   refine byG fun G9 k9 => ?_
   obtain ⟨x,n,hx,hn,hdn⟩ := hd st (.inr (List.mem_append_right _ List.mem_cons_self))
   have hk := hdn.tr.kids hx
   obtain ⟨T1,e1,I1,R1,D1⟩ := lfcIn_spec h hN hM hF (proc := addP proc st) hx hdn (mem_addP.mpr (.inr rfl)) n.tr T stk.dropLast I hn (fun a ha => (hk a.2).mp (List.mem_map.mpr ⟨a,ha,rfl⟩)) (dm_le hN (Nat.le_of_succ_le (Nat.le_trans (Nat.le_of_eq lenc.symm) (dm_stk hm))) (hdn.tr.len h))
   obtain ⟨D2,hlt⟩ := D.step (l := n.tr.map (·.2)) (List.getElem?_eq_some_iff.mp hx).1 hk (by rw [List.length_map]; exact hdn.tr.len h)
   obtain ⟨T',e',I',R',A'⟩ := ih _ T1 _ (Nat.lt_of_lt_of_le hlt (Nat.le_of_lt_succ hf)) (Nat.le_trans (Nat.le_of_lt hlt) hm) D2 I1 (go_all R1.keep hd D1)
   exact k9 ⟨T',(elim_some hs).trans ((bind_of hn).trans ((if_pos (Nat.le_trans D.size hN)).trans ((bind_of e1).trans e'))),I',R1.trans R',A'⟩
end
end
section
noncomputable def ends (q : List Int → Bool) : List Int → List (List Int)
 | [] => []
 | c :: r => (if q (c :: r) then [c :: r] else []) ++ ends q r
theorem ends_hit {q : List Int → Bool} {c : Int} {r : List Int} (h : q (c :: r) = true) : ends q (c :: r) = (c :: r) :: ends q r := congrArg (· ++ ends q r) (if_pos h)
theorem ends_miss {q : List Int → Bool} {c : Int} {r : List Int} (h : ¬ q (c :: r) = true) : ends q (c :: r) = ends q r := congrArg (· ++ ends q r) (if_neg h)
theorem ends_lend {p q : List Int → Bool} (h : ∀ u,q u = true → p u = true) (x : List Int) : ends q (lend p x) = ends q x := by
 induction x with
 | nil => rfl
 | cons c r ih =>
  by_cases hp : p (c :: r) = true
  ·rw [lend_hit hp]
  ·rw [lend_miss hp,ends_miss fun e => hp (h _ e)]; exact ih
theorem ends_len {q : List Int → Bool} (x : List Int) : (ends q x).length ≤ x.length := by
 induction x with
 | nil => exact Nat.le_refl _
 | cons c r ih =>
  by_cases hq : q (c :: r) = true
  ·rw [ends_hit hq]; exact Nat.succ_le_succ ih
  ·rw [ends_miss hq]; exact Nat.le_succ_of_le ih
section
variable (W : List (List Int)) (q : List Int → Bool)
structure PI (T : List PNd) : Prop where
 len : T.length = W.length
 sta : ∀ (j : Nat) (x : List Int) (n : PNd),W[j]? = some x → T[j]? = some n → Sta W x n
 done : ∀ (j : Nat) (x : List Int) (n : PNd),W[j]? = some x → T[j]? = some n → DoneN W x n
 mark : ∀ (j : Nat) (x : List Int) (n : PNd),W[j]? = some x → T[j]? = some n → x ≠ [] → n.suc = q x ∧ (q x = true → n.kw = some x)
noncomputable def OutAt (T : List PNd) (j : Nat) : Prop := ∃ (x : List Int) (n : PNd),W[j]? = some x ∧ T[j]? = some n ∧ n.outs = some (ends q x)
variable {W q}
theorem PI.get {T : List PNd} (I : PI W q T) {j : Nat} {x : List Int} (hj : W[j]? = some x) : ∃ n,T[j]? = some n := by
 have : j < T.length := by rw [I.len]; exact (List.getElem?_eq_some_iff.mp hj).1
 exact ⟨_,List.getElem?_eq_getElem this⟩
theorem outsOf_spec (h : WOk W) (hq : ∀ u,q u = true → u ∈ W ∧ u.length ≤ 1000) {T : List PNd} (I : PI W q T) (f j : Nat) (x : List Int) (hj : W[j]? = some x) (hf : x.length < f) : outsOf T f j = some (ends q x) := by
 induction f generalizing j x with
 | zero => exact absurd hf (Nat.not_lt_zero _)
 | succ f ih =>
  by_cases h0 : j = 0
  ·rw [some_eq hj (h0 ▸ h.z)]
   exact if_pos h0
  ·refine byG fun G9 k9 => ?_
   obtain ⟨n,hn⟩ := I.get hj
   obtain ⟨l,hl,hlw⟩ := (I.done j x n hj hn).lss
   have hx : x ≠ [] := fun e => h0 (h.inj hj (e ▸ h.z))
   obtain ⟨hs,hk⟩ := I.mark j _ n hj hn hx
   refine k9 ?_
   clear k9 G9
   have ih := ih l _ hlw (Nat.lt_of_lt_of_le (le_tail_lt hx) (Nat.le_of_lt_succ hf))
   rw [show le W x.tail = lend (inW W) x.tail from rfl,ends_lend (fun u hu => in_of (hq u hu).1)] at ih
   refine (if_neg h0).trans ((bind_of hn).trans ((bind_of hl).trans ?_))
   rw [hs,ih]
   cases x with
   | nil => exact absurd rfl hx
   | cons c r =>
    by_cases hqq : q (c :: r) = true
    ·rw [if_pos hqq,hk hqq,Option.bind_some,if_pos (hq _ hqq).2,ends_hit hqq]; rfl
    ·rw [if_neg hqq,ends_miss hqq]; rfl
theorem setOuts_eq {T : List PNd} {j : Nat} {n : PNd} (hn : T[j]? = some n) {l : List (List Int)} : setOuts T j l = T.set j { n with outs := some l } := by unfold setOuts; rw [hn]
theorem set_all {T : List PNd} {j : Nat} {n n1 : PNd} {A : Nat → List Int → PNd → Prop} (hn : T[j]? = some n) (k : ∀ y,W[j]? = some y → A j y n1) (h : ∀ (i : Nat) (y : List Int) (m : PNd),W[i]? = some y → T[i]? = some m → A i y m) (i : Nat) (y : List Int) (m : PNd) (hy : W[i]? = some y) (hm : (T.set j n1)[i]? = some m) : A i y m := by
 by_cases e : i = j
 ·rw [e] at hm hy ⊢
  rw [some_eq hm (set_eq hn)]; exact k y hy
 ·exact h i y m hy ((set_ne e).symm.trans hm)
theorem setOuts_spec {T : List PNd} (I : PI W q T) {j : Nat} {x : List Int} (hj : W[j]? = some x) {l : List (List Int)} (hl : l = ends q x) : PI W q (setOuts T j l) ∧ OutAt W q (setOuts T j l) j ∧ (∀ k,OutAt W q T k → OutAt W q (setOuts T j l) k) ∧ ∀ (k : Nat) (n : PNd),T[k]? = some n → ∃ n',(setOuts T j l)[k]? = some n' ∧ n'.tr = n.tr := by
 obtain ⟨n,hn⟩ := I.get hj
 rw [setOuts_eq hn]
 have ho : OutAt W q (T.set j { n with outs := some l }) j := ⟨x,_,hj,set_eq hn,congrArg some hl⟩
 refine ⟨⟨List.length_set.trans I.len,set_all hn (fun y hy => ?_) I.sta,set_all hn (fun y hy => ?_) I.done,set_all hn (fun y hy => I.mark j y n hy hn) I.mark⟩,ho,fun k hk => ?_,fun k m hm => ?_⟩
 ·have := I.sta j y n hy hn
  exact ⟨this.up,this.rt⟩
 ·have := I.done j y n hy hn
  exact ⟨this.lss,this.tr⟩
 ·by_cases ek : k = j
  ·rw [ek]; exact ho
  ·obtain ⟨y,m,hy,hm,ho⟩ := hk
   exact ⟨y,m,hy,(set_ne ek).trans hm,ho⟩
 ·by_cases ek : k = j
  ·rw [ek] at hm ⊢; exact ⟨_,set_eq hn,by rw [← some_eq hn hm]⟩
  ·exact ⟨m,(set_ne ek).trans hm,rfl⟩
theorem preIn_spec (h : WOk W) (hq : ∀ u,q u = true → u ∈ W ∧ u.length ≤ 1000) {F : Nat} (hF : ∀ w ∈ W,w.length < F) (hF9 : F ≤ 900) {proc : List Nat} (r : List (Int × Nat)) (T : List PNd) (stk : List Nat) (I : PI W q T) (hch : ∀ a ∈ r,∃ x,W[a.2]? = some x) (hz : stk.length + r.length ≤ 100000) :
  ∃ T',preIn F proc r T stk = some (T',stk ++ (r.map (·.2)).filter fun j => decide (j ∉ proc)) ∧ PI W q T' ∧ (∀ k,OutAt W q T k → OutAt W q T' k) ∧ ∀ j ∈ r.map (·.2),j ∉ proc → OutAt W q T' j := by
 induction r generalizing T stk with
 | nil => exact ⟨T,congrArg (fun l => some (T,l)) (List.append_nil stk).symm,I,fun _ h => h,fun _ h => absurd h List.not_mem_nil⟩
 | cons a r ih =>
  have hch' : ∀ a ∈ r,∃ x,W[a.2]? = some x := fun a ha => hch a (List.mem_cons_of_mem _ ha)
  have hz' : stk.length + 1 + r.length ≤ 100000 := by rw [Nat.add_right_comm]; exact hz
  by_cases hj : a.2 ∈ proc
  ·refine byG fun G9 k9 => ?_
   obtain ⟨T',e,I',R,D⟩ := ih T stk I hch' (Nat.le_of_succ_le hz)
   refine k9 ⟨T',(if_pos hj).trans (e.trans ?_),I',R,fun k hk hkp => (List.mem_cons.mp hk).elim (fun q => absurd (q ▸ hj) hkp) fun q => D k q hkp⟩
   rw [List.map_cons,List.filter_cons_of_neg (p := fun j => decide (j ∉ proc)) (by rw [decide_eq_true_iff]; exact fun q => q hj)]
  ·refine byG fun G9 k9 => ?_
   obtain ⟨x,hx⟩ := hch a List.mem_cons_self
   have hxl := hF _ (List.mem_of_getElem? hx)
   obtain ⟨I1,O1,K1,_⟩ := setOuts_spec I hx (l := ends q x) rfl
   obtain ⟨T',e,I',R,D⟩ := ih (setOuts T a.2 (ends q x)) (stk ++ [a.2]) I1 hch' (by rw [lenc]; exact hz')
   refine k9 ⟨T',(if_neg hj).trans ((bind_of (outsOf_spec h hq I F a.2 x hx hxl)).trans ((if_pos ⟨Nat.le_of_succ_le (Nat.le_trans (Nat.le_add_right _ _) hz'),Nat.le_trans (ends_len x) (Nat.le_trans (Nat.le_of_lt hxl) hF9)⟩).trans (e.trans ?_))),I',fun k hk => R k (K1 k hk),fun k hk hkp => (List.mem_cons.mp hk).elim (fun q => q ▸ R _ O1) fun q => D k q hkp⟩
   rw [List.map_cons,List.filter_cons_of_pos (p := fun j => decide (j ∉ proc)) (decide_eq_true hj),List.append_assoc]; rfl
theorem preT_spec (h : WOk W) (hN : W.length ≤ 900) (hq : ∀ u,q u = true → u ∈ W ∧ u.length ≤ 1000) {F : Nat} (hF : ∀ w ∈ W,w.length < F) (hF9 : F ≤ 900) (f : Nat) (proc : List Nat) (T : List PNd) (stk : List Nat) (hf : dm W.length proc stk < f) (hm : dm W.length proc stk ≤ 90000) (D : DI (chW W) W.length proc stk) (I : PI W q T) (hd : ∀ j,j ∈ proc ∨ j ∈ stk → OutAt W q T j) :
  ∃ T',preT F f proc T stk = some T' ∧ PI W q T' ∧ ∀ (j : Nat) (x : List Int),W[j]? = some x → OutAt W q T' j := by
 induction f generalizing proc T stk with
 | zero => exact absurd hf (Nat.not_lt_zero _)
 | succ f ih =>
  cases hs : stk.getLast? with
  | none =>
   have hs' := hs
   rw [List.getLast?_eq_none_iff] at hs
   rw [hs] at D
   exact ⟨T,elim_none hs',I,fun j x hx => hd j (.inl (all_done h D hx))⟩
  | some st =>
   have hsp := last_app hs
   rw [← hsp] at D hf hm hd
   refine byG fun G9 k9 => ?_
   obtain ⟨x,n,hx,hn,_⟩ := hd st (.inr (List.mem_append_right _ List.mem_cons_self))
   have hdn := I.done st x n hx hn
   have hk := hdn.tr.kids hx
   obtain ⟨T1,e1,I1,R1,D1⟩ := preIn_spec h hq hF hF9 (proc := addP proc st) n.tr T stk.dropLast I (fun a ha => ((hk a.2).mp (List.mem_map.mpr ⟨a,ha,rfl⟩)).elim fun _ q => q.elim fun _ q => ⟨_,q.2.1⟩) (dm_le hN (Nat.le_of_succ_le (Nat.le_trans (Nat.le_of_eq lenc.symm) (dm_stk hm))) (hdn.tr.len h))
   obtain ⟨D2,hlt⟩ := D.step (l := n.tr.map (·.2)) (List.getElem?_eq_some_iff.mp hx).1 hk (by rw [List.length_map]; exact hdn.tr.len h)
   obtain ⟨T',e',I',A'⟩ := ih _ T1 _ (Nat.lt_of_lt_of_le hlt (Nat.le_of_lt_succ hf)) (Nat.le_trans (Nat.le_of_lt hlt) hm) D2 I1 (go_all R1 hd D1)
   exact k9 ⟨T',(elim_some hs).trans ((bind_of hn).trans ((if_pos (Nat.le_trans D.size hN)).trans ((bind_of e1).trans e'))),I',A'⟩
end
end
section
noncomputable def qW (ws : List (List Int)) (x : List Int) : Bool := decide (x ∈ ws) && !x.isEmpty
section
structure TrI (ws : List (List Int)) (W : List (List Int)) (T : List PNd) : Prop where
 ok : WOk W
 len : T.length = W.length
 sta : ∀ (j : Nat) (x : List Int) (n : PNd),W[j]? = some x → T[j]? = some n → Sta W x n
 raw : ∀ (j : Nat) (x : List Int) (n : PNd),W[j]? = some x → T[j]? = some n → RawN W x n
 mark : ∀ (j : Nat) (x : List Int) (n : PNd),W[j]? = some x → T[j]? = some n → n.suc = qW ws x ∧ (qW ws x = true → n.kw = some x)
 top : ∀ n,T[0]? = some n → n.par = none
theorem TrI.get {ws : List (List Int)} {W : List (List Int)} {T : List PNd} (I : TrI ws W T) {j : Nat} {x : List Int} (hj : W[j]? = some x) : ∃ n,T[j]? = some n := by
 have : j < T.length := by rw [I.len]; exact (List.getElem?_eq_some_iff.mp hj).1
 exact ⟨_,List.getElem?_eq_getElem this⟩
theorem one_get {α : Type} {a b : α} {j : Nat} (e : [a][j]? = some b) : b = a := List.mem_singleton.mp (List.mem_of_getElem? e)
theorem nil_app {α : Type} {u : List α} {c : α} {P : Prop} (h : [] = u ++ [c]) : P := absurd h.symm (List.append_ne_nil_of_right_ne_nil _ (List.cons_ne_nil _ _))
theorem TrI.init : TrI [] [[]] [root0] := by
 refine ⟨⟨rfl,List.pairwise_singleton _ _,fun u c h => nil_app (List.mem_singleton.mp h).symm⟩,rfl,fun j x n hx hn => ?_,fun j x n hx hn => ?_,fun j x n hx hn => ?_,fun n hn => by rw [one_get hn]; rfl⟩
 ·rw [one_get hx,one_get hn]
  exact ⟨fun u c e => nil_app e,fun _ => rfl⟩
 ·rw [one_get hx,one_get hn]
  exact ⟨rfl,⟨List.nodup_nil,fun c j => ⟨fun e => none_some e,fun e => nil_app (one_get e).symm⟩⟩⟩
 ·rw [one_get hx,one_get hn]
  exact ⟨rfl,fun e => absurd e Bool.false_ne_true⟩
section
variable {α : Type} {l : List α} {a b : α} {j : Nat}
theorem snoc_old (h : l[j]? = some b) : (l ++ [a])[j]? = some b := (List.getElem?_append_left (List.getElem?_eq_some_iff.mp h).1).trans h
theorem snoc_new : (l ++ [a])[l.length]? = some a := List.getElem?_concat_length
theorem snoc_inv (h : (l ++ [a])[j]? = some b) : l[j]? = some b ∨ (j = l.length ∧ b = a) := by
 rcases Nat.lt_or_ge j l.length with q | q
 ·rw [List.getElem?_append_left q] at h; exact .inl h
 ·by_cases e : j = l.length
  ·rw [e] at h; exact .inr ⟨e,some_eq h snoc_new⟩
  ·rw [List.getElem?_append_right q,List.getElem?_eq_none (Nat.sub_pos_of_lt (Nat.lt_of_le_of_ne q (Ne.symm e)))] at h
   exact none_some h
theorem snoc_inj {u v : List α} (h : u ++ [a] = v ++ [b]) : u = v ∧ a = b := (List.append_inj' h rfl).imp id fun e => (List.cons.inj e).1
theorem snoc_lt {β : Type} {c d : β} {k : List β} (h : l[j]? = some b) (q : (k ++ [d])[j]? = some c) (e : k.length = l.length) : k[j]? = some c := (snoc_inv q).elim id fun q => absurd (q.1.trans e) (Nat.ne_of_lt (List.getElem?_eq_some_iff.mp h).1)
end
section
variable {ws W : List (List Int)} {T : List PNd} {cur : Nat} {x : List Int} {n n1 : PNd} {c : Int}
theorem grow_all {A : Nat → List Int → PNd → Prop} {w' : List Int} {m' : PNd} (hlen : T.length = W.length) (hx : W[cur]? = some x) (hn : T[cur]? = some n) (h1 : A cur x n1) (h2 : ∀ j y m,j ≠ cur → W[j]? = some y → T[j]? = some m → A j y m) (h3 : A W.length w' m') (j : Nat) (y : List Int) (m : PNd) (hy : (W ++ [w'])[j]? = some y) (hm : (T.set cur n1 ++ [m'])[j]? = some m) : A j y m := by
 have hl : (T.set cur n1).length = W.length := List.length_set.trans hlen
 rcases snoc_inv hy with hy | q
 ·have hm := snoc_lt hy hm hl
  by_cases e : j = cur
  ·rw [e] at hm hy ⊢
   rw [some_eq hm (set_eq hn),some_eq hy hx]; exact h1
  ·exact h2 j y m e hy ((set_ne e).symm.trans hm)
 ·rw [q.1,← hl] at hm
  rw [q.1,q.2,some_eq hm snoc_new]; exact h3
theorem step_new (I : TrI ws W T) (hx : W[cur]? = some x) (hn : T[cur]? = some n) (hl : lookI c n.tr = none) (hq : qW ws (x ++ [c]) = true → x ++ [c] ∈ W) : TrI ws (W ++ [x ++ [c]]) (T.set cur { n with tr := n.tr ++ [(c,T.length)] } ++ [newNd c cur]) := by
 have hraw := I.raw cur x n hx hn
 have hnm : x ++ [c] ∉ W := fun hm => (List.getElem?_of_mem hm).elim fun k hk => Option.some_ne_none _ (((hraw.tr.at_ c k).mpr hk).symm.trans hl)
 have up : ∀ {y : List Int} {m : PNd},Sta W y m → Sta (W ++ [x ++ [c]]) y m := fun s => ⟨fun u d e => ⟨(s.up u d e).1,(s.up u d e).2.imp fun p q => ⟨q.1,snoc_old q.2⟩⟩,s.rt⟩
 have g := fun {A : Nat → List Int → PNd → Prop} => grow_all (A := A) (n1 := { n with tr := n.tr ++ [(c,T.length)] }) (w' := x ++ [c]) (m' := newNd c cur) I.len hx hn
 refine ⟨⟨snoc_old I.ok.z,List.nodup_append.mpr ⟨I.ok.nd,List.pairwise_singleton _ _,fun a ha b hb e => hnm ((e.trans (List.mem_singleton.mp hb)) ▸ ha)⟩,fun u d hm => List.mem_append_left _ ((List.mem_append.mp hm).elim (I.ok.pre u d) fun h => (snoc_inj (List.mem_singleton.mp h)).1 ▸ List.mem_of_getElem? hx)⟩,?_,g ?_ (fun j y m _ hy hm => up (I.sta j y m hy hm)) ?_,g ?_ (fun j y m hne hy hm => ?_) ?_,g (I.mark cur x n hx hn) (fun j y m _ hy hm => I.mark j y m hy hm) ?_,fun m hm => ?_⟩
 ·rw [List.length_append,List.length_append,List.length_set,I.len]; rfl
 ·have s := I.sta _ _ _ hx hn
  exact up ⟨s.up,s.rt⟩
 ·exact ⟨fun u d e => ⟨congrArg some (snoc_inj e).2,cur,rfl,(snoc_inj e).1 ▸ snoc_old hx⟩,fun e => nil_app e.symm⟩
 ·refine ⟨hraw.lss,⟨?_,fun d j' => ?_⟩⟩
  ·show ((n.tr ++ [(c,T.length)]).map (·.1)).Nodup
   rw [List.map_append]
   exact List.nodup_append.mpr ⟨hraw.tr.nd,List.pairwise_singleton _ _,fun a ha b hb e => lookI_none hl ((e.trans (List.mem_singleton.mp hb : b = c)) ▸ ha)⟩
  ·show lookI d (n.tr ++ [(c,T.length)]) = some j' ↔ _
   rw [lookI_append]
   by_cases hd : d = c
   ·rw [hd,hl,show lookI c [(c,T.length)] = some T.length from if_pos rfl,Option.none_or,I.len]
    exact ⟨fun e => Option.some.inj e ▸ snoc_new,fun e => (snoc_inv e).elim (fun e => absurd (List.mem_of_getElem? e) hnm) fun q => congrArg some q.1.symm⟩
   ·rw [show lookI d [(c,T.length)] = none from lookI_miss (Ne.symm hd),Option.or_none,hraw.tr.at_]
    exact ⟨snoc_old,fun e => (snoc_inv e).elim id fun q => absurd (snoc_inj q.2).2 hd⟩
 ·have r := I.raw j y m hy hm
  exact ⟨r.lss,⟨r.tr.nd,fun d j' => (r.tr.at_ d j').trans ⟨snoc_old,fun e => (snoc_inv e).elim id fun q => absurd (I.ok.inj hy (by rw [(snoc_inj q.2).1]; exact hx)) hne⟩⟩⟩
 ·exact ⟨rfl,⟨List.nodup_nil,fun d j' => ⟨fun e => none_some e,fun e => (snoc_inv e).elim (fun e => absurd (I.ok.pre _ _ (List.mem_of_getElem? e)) hnm) fun q => absurd (lenc.symm.trans (congrArg List.length (snoc_inj q.2).1)) (Nat.succ_ne_self _)⟩⟩⟩
 ·rw [Bool.eq_false_iff.mpr fun e => hnm (hq e)]
  exact ⟨rfl,fun e => absurd e Bool.false_ne_true⟩
 ·exact g (A := fun j _ m => j = 0 → m.par = none) (fun e => I.top n (e ▸ hn)) (fun j y m _ _ hm e => I.top m (e ▸ hm)) (fun e => absurd (List.getElem?_eq_some_iff.mp I.ok.z).1 (by rw [e]; exact Nat.lt_irrefl _)) 0 [] m (snoc_old I.ok.z) hm rfl
theorem step_spec (I : TrI ws W T) (hx : W[cur]? = some x) (c : Int) (hq : qW ws (x ++ [c]) = true → x ++ [c] ∈ W) :
  ∃ W',TrI ws W' (stepT T cur c).1 ∧ W'[(stepT T cur c).2]? = some (x ++ [c]) ∧ (∀ y,y ∈ W' ↔ y ∈ W ∨ y = x ++ [c]) ∧ W'.length ≤ W.length + 1 := by
 obtain ⟨n,hn⟩ := I.get hx
 unfold stepT
 rw [hn]
 dsimp only
 cases hl : lookI c n.tr with
 | some j =>
  have hj := ((I.raw cur x n hx hn).tr.at_ c j).mp hl
  exact ⟨W,I,hj,fun y => ⟨.inl,fun e => e.elim id fun e => e ▸ List.mem_of_getElem? hj⟩,Nat.le_succ _⟩
 | none => exact ⟨_,step_new I hx hn hl hq,I.len ▸ snoc_new,fun y => by rw [List.mem_append,List.mem_singleton],Nat.le_of_eq lenc⟩
theorem addCh_spec (r : List Int) {W : List (List Int)} {T : List PNd} (I : TrI ws W T) {cur : Nat} {x : List Int} (hx : W[cur]? = some x) (hq : ∀ u,qW ws u = true → u ∈ W) :
  ∃ W',TrI ws W' (addCh T cur r).1 ∧ W'[(addCh T cur r).2]? = some (x ++ r) ∧ (∀ y,y ∈ W' ↔ y ∈ W ∨ (x <+: y ∧ y <+: x ++ r)) ∧ W'.length ≤ W.length + r.length := by
 induction r generalizing W T cur x with
 | nil =>
  rw [List.append_nil]
  exact ⟨W,I,hx,fun y => ⟨.inl,fun e => e.elim id fun e => e.1.eq_of_length (Nat.le_antisymm e.1.length_le e.2.length_le) ▸ List.mem_of_getElem? hx⟩,Nat.le_refl _⟩
 | cons c r ih =>
  obtain ⟨W1,I1,h1,m1,l1⟩ := step_spec I hx c fun e => hq _ e
  obtain ⟨W2,I2,h2,m2,l2⟩ := ih I1 h1 fun u hu => (m1 u).mpr (.inl (hq u hu))
  have e3 : x ++ [c] ++ r = x ++ c :: r := List.append_assoc x [c] r
  rw [e3] at h2 m2
  refine ⟨W2,I2,h2,fun y => ?_,Nat.le_trans l2 (Nat.le_trans (Nat.add_le_add_right l1 _) (Nat.le_of_eq (Nat.add_right_comm _ _ _)))⟩
  rw [m2,m1]
  constructor
  ·rintro ((e | e) | e)
   ·exact .inl e
   ·rw [e]; exact .inr ⟨List.prefix_append _ _,e3 ▸ List.prefix_append _ _⟩
   ·exact .inr ⟨(List.prefix_append _ _).trans e.1,e.2⟩
  ·rintro (e | ⟨⟨z,e1⟩,e2⟩)
   ·exact .inl (.inl e)
   ·cases z with
    | nil => rw [← e1,List.append_nil]; exact .inl (.inl (List.mem_of_getElem? hx))
    | cons d z =>
     have e5 : d = c := (List.cons_prefix_cons.mp ((List.prefix_append_right_inj x).mp (e1 ▸ e2))).1
     exact .inr ⟨⟨z,by rw [← e1,e5,List.append_assoc]; rfl⟩,e2⟩
theorem qW_snoc {k y : List Int} : qW (ws ++ [k]) y = ((decide (y ∈ ws) || decide (y = k)) && !y.isEmpty) := by
 unfold qW
 rw [show decide (y ∈ ws ++ [k]) = decide (y ∈ ws ∨ y = k) from decide_eq_decide.mpr (by rw [List.mem_append,List.mem_singleton]),Bool.decide_or]
theorem mark_spec (I : TrI ws W T) {i : Nat} {k : List Int} (hk : k ≠ []) (hi : W[i]? = some k) : TrI (ws ++ [k]) W (markT T i k) := by
 obtain ⟨n,hn⟩ := I.get hi
 rw [show markT T i k = T.set i { n with suc := true,kw := some k } by unfold markT; rw [hn]]
 refine ⟨I.ok,List.length_set.trans I.len,set_all hn (fun y hy => ?_) I.sta,set_all hn (fun y hy => ?_) I.raw,fun j y m hy hm => ?_,fun m hm => set_all (W := W) (n1 := { n with suc := true,kw := some k }) (A := fun j _ m => j = 0 → m.par = none) hn (fun y hy e => I.top n (e ▸ hn)) (fun j y m _ hm e => I.top m (e ▸ hm)) 0 [] m I.ok.z hm rfl⟩
 ·have s := I.sta _ _ _ hy hn
  exact ⟨s.up,s.rt⟩
 ·have s := I.raw _ _ _ hy hn
  exact ⟨s.lss,s.tr⟩
 ·rw [qW_snoc]
  by_cases e : j = i
  ·rw [e] at hy hm
   rw [some_eq hm (set_eq hn),some_eq hy hi,decide_eq_true rfl,Bool.or_true,Bool.true_and]
   exact ⟨by rw [List.isEmpty_eq_false_iff.mpr hk]; rfl,fun _ => rfl⟩
  ·rw [set_ne e] at hm
   rw [decide_eq_false (p := y = k) fun q => e (I.ok.inj hy (q ▸ hi)),Bool.or_false]
   exact I.mark j y m hy hm
theorem add_spec (I : TrI ws W T) (hq : ∀ u,qW ws u = true → u ∈ W) (k : List Int) :
  ∃ W',TrI (ws ++ [k]) W' (addT T k) ∧ (∀ y,y ∈ W' ↔ y ∈ W ∨ y <+: k) ∧ W'.length ≤ W.length + k.length := by
 unfold addT
 by_cases hk : k = []
 ·rw [if_pos hk]
  refine ⟨W,⟨I.ok,I.len,I.sta,I.raw,fun j x n hx hn => ?_,I.top⟩,fun y => ⟨.inl,fun e => e.elim id fun e => ?_⟩,Nat.le_add_right _ _⟩
  ·have : qW (ws ++ [k]) x = qW ws x := by
    rw [qW_snoc,hk]
    cases x with
    | nil => exact (Bool.and_false _).trans (Bool.and_false _).symm
    | cons a x => rw [decide_eq_false (List.cons_ne_nil a x),Bool.or_false]; rfl
   rw [this]; exact I.mark j x n hx hn
  ·rw [hk] at e
   rw [List.prefix_nil.mp e]; exact I.ok.mem0
 ·rw [if_neg hk]
  obtain ⟨W1,I1,h1,m1,l1⟩ := addCh_spec k I I.ok.z hq
  refine ⟨W1,mark_spec I1 hk h1,fun y => (m1 y).trans (or_congr Iff.rfl ⟨fun q => q.2,fun q => ⟨List.nil_prefix,q⟩⟩),l1⟩
theorem trie_fold (l : List (List Int)) {ws : List (List Int)} {W : List (List Int)} {T : List PNd} (I : TrI ws W T) (h : ∀ y,y ∈ W ↔ y = [] ∨ ∃ k ∈ ws,y <+: k) :
  ∃ W',TrI (ws ++ l) W' (l.foldl addT T) ∧ (∀ y,y ∈ W' ↔ y = [] ∨ ∃ k ∈ ws ++ l,y <+: k) ∧ W'.length ≤ W.length + (l.map List.length).sum := by
 induction l generalizing ws W T with
 | nil => rw [List.append_nil]; exact ⟨W,I,h,Nat.le_refl _⟩
 | cons k l ih =>
  obtain ⟨W1,I1,m1,l1⟩ := add_spec I (fun u hu => (h u).mpr (.inr ⟨u,of_decide_eq_true (Bool.and_eq_true_iff.mp hu).1,List.prefix_refl _⟩)) k
  obtain ⟨W2,I2,m2,l2⟩ := ih I1 fun y => by
   rw [m1,h,or_assoc]
   refine or_congr Iff.rfl ⟨fun q => q.elim (Exists.imp fun a q => ⟨List.mem_append_left _ q.1,q.2⟩) fun q => ⟨k,List.mem_append_right _ List.mem_cons_self,q⟩,?_⟩
   rintro ⟨a,ha,e⟩
   exact (List.mem_append.mp ha).imp (fun ha => ⟨a,ha,e⟩) fun ha => (List.mem_singleton.mp ha : a = k) ▸ e
  rw [List.append_assoc] at I2 m2
  refine ⟨W2,I2,m2,Nat.le_trans l2 ?_⟩
  rw [List.map_cons,List.sum_cons,← Nat.add_assoc]
  exact Nat.add_le_add_right l1 _
theorem trie_spec (ws : List (List Int)) : ∃ W,TrI ws W (trieOf ws) ∧ (∀ y,y ∈ W ↔ y = [] ∨ ∃ k ∈ ws,y <+: k) ∧ W.length ≤ 1 + (ws.map List.length).sum :=
 trie_fold ws TrI.init fun y => List.mem_singleton.trans ⟨.inl,fun q => q.elim id fun q => q.elim fun _ q => absurd q.1 List.not_mem_nil⟩
end
end
end
section
structure FinI (ws W : List (List Int)) (T : List PNd) : Prop where
 ok : WOk W
 mem : ∀ y,y ∈ W ↔ y = [] ∨ ∃ k ∈ ws,y <+: k
 pi : PI W (qW ws) T
 out : ∀ (j : Nat) (x : List Int),W[j]? = some x → OutAt W (qW ws) T j
theorem qW_mem {ws : List (List Int)} {u : List Int} (h : qW ws u = true) : u ∈ ws ∧ u ≠ [] :=
 (Bool.and_eq_true_iff.mp h).imp of_decide_eq_true fun e q => by rw [q] at e; exact absurd e Bool.false_ne_true
section
variable {ws W : List (List Int)} {T : List PNd} {n0 : PNd}
theorem fin_fi (I : TrI ws W T) (hn0 : T[0]? = some n0) : FI W 17 (T.set 0 { n0 with lss := some 0 }) ∧ ∀ j ∈ [0],DoneAt W (T.set 0 { n0 with lss := some 0 }) j := by
 have d0 : DoneN W [] { n0 with lss := some 0 } := ⟨⟨0,rfl,I.ok.z⟩,(I.raw 0 [] n0 I.ok.z hn0).tr.root I.ok⟩
 have z : ∀ {y : List Int},W[0]? = some y → y = [] := fun hy => some_eq hy I.ok.z
 refine ⟨⟨List.length_set.trans I.len,set_all hn0 (fun y hy => ?_) I.sta,⟨fun j x n hx hn _ => set_all (A := fun _ x n => RawN W x n ∨ DoneN W x n) hn0 (fun y hy => z hy ▸ .inr d0) (fun i y m hy hm => .inl (I.raw i y m hy hm)) j x n hx hn,fun j x n hx hn _ => set_all (A := fun _ x n => DoneN W x n → ∀ (v : List Int) (j : Nat),v <:+ x → W[j]? = some v → ∃ n',(T.set 0 { n0 with lss := some 0 })[j]? = some n' ∧ DoneN W v n') hn0 (fun y hy _ v k hv hk => ?_) (fun i y m hy hm d => ((I.raw i y m hy hm).not d).elim) j x n hx hn⟩⟩,fun j hj => ?_⟩
 ·have s := I.sta 0 y n0 hy hn0
  exact ⟨s.up,s.rt⟩
 ·have hv0 : v = [] := List.suffix_nil.mp (z hy ▸ hv)
  rw [hv0] at hk ⊢
  rw [I.ok.inj hk I.ok.z]
  exact ⟨_,set_eq hn0,d0⟩
 ·rw [List.mem_singleton.mp hj]
  exact ⟨[],_,I.ok.z,set_eq hn0,d0⟩
theorem fin_pi {T1 : List PNd} {M : Nat} (I : TrI ws W T) (hn0 : T[0]? = some n0) (I1 : FI W M T1) (R1 : FR W (T.set 0 { n0 with lss := some 0 }) T1) (A1 : ∀ j x,W[j]? = some x → DoneAt W T1 j) : PI W (qW ws) T1 := by
 refine ⟨I1.len,I1.sta,fun j x n hx hn => ?_,fun j x n hx hn _ => ?_⟩
 ·obtain ⟨y,m,hy,hm,d⟩ := A1 j x hx
  rw [some_eq hx hy,some_eq hn hm]; exact d
 ·obtain ⟨m,hm⟩ := I.get hx
  obtain ⟨m1,hm1,s1⟩ := set_same (n1 := { n0 with lss := some 0 }) hn0 ⟨rfl,rfl,rfl,rfl,rfl⟩ hm
  obtain ⟨m2,hm2,s2⟩ := R1.st j m1 hm1
  have s := s1.trans s2
  rw [some_eq hn hm2,s.suc,s.kw]
  exact I.mark j x m hx hm
end
theorem or_one {A : Nat → Prop} (h : ∀ j ∈ [0],A j) : ∀ j,j ∈ ([] : List Nat) ∨ j ∈ [0] → A j := fun j q => q.elim (fun q => absurd q List.not_mem_nil) (h j)
theorem fin_spec {ws : List (List Int)} (h16 : ∀ k ∈ ws,k.length ≤ 16) (hs : (ws.map List.length).sum ≤ 200) : ∃ W T,finT 20 50000 (trieOf ws) = some T ∧ FinI ws W T := by
 refine byG fun G9 k9 => ?_
 obtain ⟨W,I,hm,hl⟩ := trie_spec ws
 obtain ⟨n0,hn0⟩ := I.get I.ok.z
 have hN : W.length ≤ 201 := Nat.le_trans hl (Nat.add_le_add_left hs 1)
 have hN9 : W.length ≤ 900 := Nat.le_trans hN (by decide)
 have hlen : ∀ w ∈ W,w.length ≤ 16 := fun w hw => ((hm w).mp hw).elim (fun e => e ▸ Nat.zero_le _) fun q => q.elim fun k q => Nat.le_trans q.2.length_le (h16 k q.1)
 have h20 : ∀ w ∈ W,w.length < 20 := fun w hw => Nat.lt_of_le_of_lt (hlen w hw) (by decide)
 have e0 : lss0 (trieOf ws) = (trieOf ws).set 0 { n0 with lss := some 0 } := by unfold lss0; rw [hn0]
 have F0 := fin_fi I hn0
 have hdm : dm W.length [] [0] ≤ 201 * 203 + 1 := Nat.add_le_add_right (Nat.mul_le_mul hN (Nat.add_le_add_right hN 2)) 1
 have hd1 := Nat.lt_of_le_of_lt hdm (show 201 * 203 + 1 < 50000 by decide)
 have hd2 := Nat.le_trans hdm (show 201 * 203 + 1 ≤ 90000 by decide)
 obtain ⟨T1,e1,I1,R1,A1⟩ := lfcT_spec I.ok hN9 (fun w hw => Nat.lt_of_le_of_lt (hlen w hw) (by decide)) h20 50000 [] _ [0] hd1 hd2 DI.init F0.1 (or_one F0.2)
 obtain ⟨P2,O2,_,_⟩ := setOuts_spec (fin_pi I hn0 I1 R1 A1) I.ok.z (l := []) rfl
 obtain ⟨T,e2,P3,O3⟩ := preT_spec I.ok hN9 (q := qW ws) (fun u hu => ⟨(hm u).mpr (.inr ⟨u,(qW_mem hu).1,List.prefix_refl _⟩),Nat.le_trans (h16 u (qW_mem hu).1) (by decide)⟩) h20 (by decide) 50000 [] (setOuts T1 0 []) [0] hd1 hd2 DI.init P2 (or_one fun j hj => (List.mem_singleton.mp hj : j = 0) ▸ O2)
 refine k9 ⟨W,T,?_,I.ok,hm,P3,O3⟩
 unfold finT
 rw [e0]
 exact (bind_of e1).trans e2
theorem go_spec {ws W : List (List Int)} {T : List PNd} (I : FinI ws W T) {cur : Nat} {y : List Int} (hc : W[cur]? = some (le W y)) (c : Int) : W[goT T cur c]? = some (le W (y ++ [c])) := by
 obtain ⟨n,hn⟩ := I.pi.get hc
 have hd := I.pi.done _ _ _ hc hn
 unfold goT
 rw [hn]
 dsimp only
 rw [I.ok.le_step y c]
 cases hl : lookI c n.tr with
 | some j => exact ((hd.tr.at_ c j).mp hl).1
 | none =>
  dsimp only
  obtain ⟨z,hz⟩ := I.pi.get I.ok.z
  have dz := I.pi.done _ _ _ I.ok.z hz
  rw [hz]
  have hsm : (le W (le W y ++ [c])).length < min 2 ((le W y).length + 1) := Nat.lt_of_not_le fun e => by
   obtain ⟨k,hk⟩ := I.ok.get (le W y ++ [c])
   exact Option.some_ne_none _ (((hd.tr.at_ c k).mpr ⟨hk,e⟩).symm.trans hl)
  show W[(lookI c z.tr).getD 0]? = _
  have h1 : (le W (le W y ++ [c])).length ≤ 1 := Nat.le_of_lt_succ (Nat.lt_of_lt_of_le hsm (Nat.min_le_left _ _))
  by_cases hm : [c] ∈ W
  ·obtain ⟨k,hk⟩ := List.getElem?_of_mem hm
   have e1 : le W ([] ++ [c]) = [c] := le_self hm
   rw [(dz.tr.at_ c k).mpr ⟨by rw [e1]; exact hk,by rw [e1]; exact Nat.le_refl _⟩]
   have h3 : [c] <:+ le W (le W y ++ [c]) := lend_max (List.suffix_append _ _) (in_of hm)
   rw [← h3.eq_of_length (Nat.le_antisymm h3.length_le h1)]; exact hk
  ·have e2 : lookI c z.tr = none := Option.eq_none_iff_forall_ne_some.mpr fun k e => by
    have h2 := ((dz.tr.at_ c k).mp e).2
    rw [show le W ([] ++ [c]) = [] from le_tail hm] at h2
    exact Nat.not_succ_le_zero _ h2
   rw [e2]
   show W[0]? = _
   by_cases hne : le W (le W y ++ [c]) = []
   ·rw [hne]; exact I.ok.z
   ·obtain ⟨v,hv,_⟩ := lend_app1 hne
    have hme := I.ok.le_mem (le W y ++ [c])
    rw [hv] at hme
    rw [hv,lenc] at h1
    rw [List.length_eq_zero_iff.mp (Nat.le_zero.mp (Nat.le_of_succ_le_succ h1))] at hme
    exact absurd hme hm
noncomputable def naiveS (q : List Int → Bool) : List Int → Nat → List Int → List (List Int × Int)
 | _,_,[] => []
 | y,idx,c :: r => (ends q (y ++ [c])).map (fun k => (k,(idx : Int) + 1 - k.length)) ++ naiveS q (y ++ [c]) (idx + 1) r
theorem out_spec {ws W : List (List Int)} {T : List PNd} (I : FinI ws W T) {i : Nat} {y : List Int} (hi : W[i]? = some (le W y)) : outAt T i = ends (qW ws) y := by
 obtain ⟨x,n,hx,hn,ho⟩ := I.out i _ hi
 have hx := some_eq hx hi
 have e : ends (qW ws) x = ends (qW ws) y := by
  rw [hx]
  exact ends_lend (fun u hu => in_of ((I.mem u).mpr (.inr ⟨u,(qW_mem hu).1,List.prefix_refl _⟩))) y
 unfold outAt
 rw [hn]
 dsimp only
 rw [ho,← e]
 by_cases h0 : i = 0
 ·rw [if_pos h0,hx,some_eq hi (h0 ▸ I.ok.z)]; rfl
 ·rw [if_neg h0]; rfl
theorem srch_spec {ws W : List (List Int)} {T : List PNd} (I : FinI ws W T) (text : List Int) (idx cur : Nat) (y : List Int) (hc : W[cur]? = some (le W y)) : srchT T idx cur text = naiveS (qW ws) y idx text := by
 induction text generalizing idx cur y with
 | nil => rfl
 | cons c r ih =>
  have hg := go_spec I hc c
  show (outAt T (goT T cur c)).map _ ++ srchT T (idx + 1) (goT T cur c) r = (ends (qW ws) (y ++ [c])).map _ ++ naiveS (qW ws) (y ++ [c]) (idx + 1) r
  rw [out_spec I hg,ih (idx + 1) _ _ hg]
theorem srch0 {ws W : List (List Int)} {T : List PNd} (I : FinI ws W T) (text : List Int) : srchT T 0 0 text = naiveS (qW ws) [] 0 text := srch_spec I text 0 0 [] I.ok.z
end
section
noncomputable def hitsAt (q : List Int → Bool) (t : List Int) (e : Nat) : List (List Int × Int) :=
 ((List.range (e + 1)).filter fun s => q ((t.take (e + 1)).drop s)).map fun s => ((t.take (e + 1)).drop s,(s : Int))
noncomputable def hitsOf (q : List Int → Bool) (t : List Int) : List (List Int × Int) := (List.range t.length).flatMap (hitsAt q t)
theorem ends_range {q : List Int → Bool} (x : List Int) : ends q x = ((List.range x.length).filter fun s => q (x.drop s)).map fun s => x.drop s := by
 induction x with
 | nil => rfl
 | cons c r ih =>
  have e : (((List.range r.length).map Nat.succ).filter fun s => q ((c :: r).drop s)).map (fun s => (c :: r).drop s) = ends q r := by
   rw [List.filter_map,List.map_map,ih]; rfl
  rw [List.length_cons,List.range_succ_eq_map]
  by_cases h : q (c :: r) = true
  ·rw [ends_hit h,List.filter_cons_of_pos (a := 0) (p := fun s => q ((c :: r).drop s)) h,List.map_cons,e]; rfl
  ·rw [ends_miss h,List.filter_cons_of_neg (a := 0) (p := fun s => q ((c :: r).drop s)) h,e]
theorem take_len {t : List Int} {e : Nat} (he : e < t.length) : (t.take (e + 1)).length = e + 1 := by rw [List.length_take]; exact Nat.min_eq_left he
theorem sub_int {e s : Nat} (h : s < e + 1) : (e : Int) + 1 - ((e + 1 - s : Nat) : Int) = s := by omega
theorem ends_hits {q : List Int → Bool} {t : List Int} {e : Nat} (he : e < t.length) : (ends q (t.take (e + 1))).map (fun k => (k,(e : Int) + 1 - k.length)) = hitsAt q t e := by
 unfold hitsAt
 rw [ends_range,take_len he,List.map_map]
 refine List.map_congr_left fun s hs => ?_
 show ((t.take (e + 1)).drop s,(e : Int) + 1 - (((t.take (e + 1)).drop s).length : Int)) = _
 rw [List.length_drop,take_len he,sub_int (List.mem_range.mp (List.mem_filter.mp hs).1)]
theorem naive_from {q : List Int → Bool} (r y : List Int) : naiveS q y y.length r = (List.range r.length).flatMap fun i => hitsAt q (y ++ r) (y.length + i) := by
 induction r generalizing y with
 | nil => rfl
 | cons c r ih =>
  have h1 := ih (y ++ [c])
  have e3 : y ++ [c] ++ r = y ++ c :: r := List.append_assoc y [c] r
  rw [lenc,e3] at h1
  show (ends q (y ++ [c])).map _ ++ naiveS q (y ++ [c]) (y.length + 1) r = _
  rw [h1,List.length_cons,List.range_succ_eq_map,List.flatMap_cons,List.flatMap_map]
  have e0 : hitsAt q (y ++ c :: r) (y.length + 0) = (ends q (y ++ [c])).map (fun k => (k,(y.length : Int) + 1 - k.length)) := by
   rw [← ends_hits (by rw [List.length_append]; exact Nat.lt_add_of_pos_right (Nat.succ_pos _)),Nat.add_zero,← e3,List.take_append_of_le_length (by rw [lenc]; exact Nat.le_refl _),List.take_of_length_le (by rw [lenc]; exact Nat.le_refl _)]
  rw [e0]
  refine congrArg (_ ++ ·) (congrArg (fun f => List.flatMap f (List.range r.length)) (funext fun i => ?_))
  rw [Nat.add_right_comm]; rfl
theorem naive_hits (q : List Int → Bool) (t : List Int) : naiveS q [] 0 t = hitsOf q t := by
 refine (naive_from (q := q) t []).trans (congrArg (fun f => List.flatMap f (List.range t.length)) (funext fun i => ?_))
 show hitsAt q t (0 + i) = _
 rw [Nat.zero_add]
theorem flatMap_congr' {α β : Type} {f g : α → List β} {l : List α} (h : ∀ a ∈ l,f a = g a) : l.flatMap f = l.flatMap g := by
 rw [List.flatMap_def,List.flatMap_def,List.map_congr_left h]
theorem naive_len {q : List Int → Bool} (t y : List Int) (i : Nat) : (naiveS q y i t).length ≤ t.length * (y.length + t.length) := by
 induction t generalizing y i with
 | nil => exact Nat.zero_le _
 | cons c r ih =>
  have h1 := ih (y ++ [c]) (i + 1)
  have h2 := ends_len (q := q) (y ++ [c])
  show (((ends q (y ++ [c])).map _) ++ naiveS q (y ++ [c]) (i + 1) r).length ≤ (r.length + 1) * (y.length + (r.length + 1))
  rw [List.length_append,List.length_map,Nat.succ_mul,Nat.add_comm]
  rw [lenc,Nat.add_right_comm] at h1
  rw [lenc] at h2
  exact Nat.add_le_add h1 (Nat.le_trans h2 (Nat.add_le_add_left (Nat.le_add_left _ _) _))
end
section
noncomputable def s1 (i : Nat) : Stmt := Challenge.pw_nc0003_03.main.body.getD i default
noncomputable def s2 (i j : Nat) : Stmt := match s1 i with
 | .ClassDef _ _ _ b _ _ _ _ _ _ _ => b.getD j default
 | _ => default
noncomputable def fO (s : Stmt) (q : String) (g : Addr) (cl : List (Str × Addr)) (dv kv doc pm : Value) (ann : Option Addr) (code ct : Value) (bi : Addr) : Obj := match s with
 | .FunctionDef n a b _ _ _ sc _ _ _ => ⟨.type "function",none,.func ⟨n,.ofString q,a,.stmts b,sc,g,cl,dv,kv,doc,pm,ann,code,ct,bi⟩,#[]⟩
 | _ => default
noncomputable def vs (n : String) (t : Nat) : Value := .str (.ofString n) t
noncomputable def de (P : Params) (n : String) (t : Nat) (v : Value) : DictEntry := ⟨PyData.keyHash P (.ofString n),vs n t,v⟩
noncomputable def tO : Value := .type "object"
noncomputable def kF (P : Params) : Frag :=
  [(2,⟨.none,.none,(.dict #[] 0),#[]⟩),
   (3,⟨(.type "dict"),.none,(.dict #[de P "__name__" 165 (vs "law_nc0003_03" 384),de P "__doc__" 166 .none,de P "__package__" 167 .none,de P "__loader__" 168 (.builtin "__main__.__loader__#opaque"),de P "__spec__" 169 .none,de P "__annotations__" 170 (.ref 6),de P "__builtins__" 171 (.ref 4),de P "__file__" 173 (vs "/claim/cut.py" 172),de P "__cached__" 174 .none,de P "State" 247 (.ref 34),de P "KeywordTree" 383 (.ref 125),de P "_law_row" 391 (.ref 134),de P "_law_longest_end" 400 (.ref 141),de P "_law_spelled" 408 (.ref 148),de P "_law_due" 414 (.ref 153),de P "_law_is_machine" 420 (.ref 158),de P "law" 426 (.ref 163)] 17),#[]⟩),
   (15,⟨(.type "tuple"),.none,(.seq #[tO] 0),#[]⟩),
   (22,⟨(.type "list"),.none,(.seq #[(vs "identifier" 201),(vs "symbol" 202),(vs "success" 203),(vs "transitions" 204),(vs "parent" 205),(vs "matched_keyword" 206),(vs "longest_strict_suffix" 207),(vs "outputs" 208)] 0),#[]⟩),
   (23,⟨(.type "tuple"),.none,(.seq #[.none,.none,(.bool .false)] 0),#[]⟩),
   (24,⟨(.type "tuple"),.none,(.seq #[] 0),#[]⟩),
   (26,⟨(.type "tuple"),.none,(.seq #[(vs "self" 213),(vs "identifier" 214),(vs "symbol" 215),(vs "parent" 216),(vs "success" 217)] 0),#[]⟩),
   (27,⟨(.type "tuple"),.none,(.seq #[] 0),#[]⟩),
   (29,⟨(.type "code"),.none,(.fields #[(vs "__init__" 210),(vs "State.__init__" 211),(vs "/claim/cut.py" 212),(.int 5 0),(.int 5 0),(.int 0 0),(.int 0 0),(.int 3 0),(.ref 24),(.bool .true),(.int 181 0),(.ref 25),.none,(.ref 26),(.ref 27),(.ref 28),(.int 218 0),(.int 5 0),(vs "/claim/cut.py" 219)]),#[]⟩),
   (30,fO (s2 1 1) "State.__init__" 3 [] (.ref 23) .none .none (vs "ahocorapy.keywordtree" 187) .none (.ref 29) .none 0),
   (31,⟨(.type "tuple"),.none,(.seq #[(vs "identifier" 221),(vs "longest_strict_suffix" 222),(vs "matched_keyword" 223),(vs "parent" 224),(vs "success" 225),(vs "symbol" 226),(vs "transitions" 227)] 0),#[]⟩),
   (33,⟨(.type "dict"),.none,(.dict #[de P "__module__" 196 (vs "ahocorapy.keywordtree" 187),de P "__firstlineno__" 200 (.int 2 199),de P "__slots__" 209 (.ref 22),de P "__init__" 220 (.ref 30),de P "__static_attributes__" 228 (.ref 31),de P "identifier" 230 (.ref 35),de P "longest_strict_suffix" 232 (.ref 36),de P "matched_keyword" 234 (.ref 37),de P "outputs" 236 (.ref 38),de P "parent" 238 (.ref 39),de P "success" 240 (.ref 40),de P "symbol" 242 (.ref 41),de P "transitions" 244 (.ref 42),de P "__doc__" 245 .none] 10),#[]⟩),
   (34,⟨(.type "type"),.none,(.cls ⟨(.ofString "State"),[tO],[(.ref 34),tO],33,(.ofString "State"),.false,[(.ofString "identifier"),(.ofString "longest_strict_suffix"),(.ofString "matched_keyword"),(.ofString "outputs"),(.ofString "parent"),(.ofString "success"),(.ofString "symbol"),(.ofString "transitions")],[],.false,.none,.false⟩),#[(.some (.ref 15)),.none,(.some (vs "State" 189)),(.some (vs "State" 197)),(.some (.builtin "object.__new__")),(.some (.bool .false))]⟩),
   (35,⟨(.type "member_descriptor"),.none,(.fields #[(vs "identifier" 229),(.ref 34),(.builtin "proto.slot"),(.builtin "proto.slot#set"),(.int 7 0)]),#[]⟩),
   (36,⟨(.type "member_descriptor"),.none,(.fields #[(vs "longest_strict_suffix" 231),(.ref 34),(.builtin "proto.slot"),(.builtin "proto.slot#set"),(.int 6 0)]),#[]⟩),
   (37,⟨(.type "member_descriptor"),.none,(.fields #[(vs "matched_keyword" 233),(.ref 34),(.builtin "proto.slot"),(.builtin "proto.slot#set"),(.int 5 0)]),#[]⟩),
   (38,⟨(.type "member_descriptor"),.none,(.fields #[(vs "outputs" 235),(.ref 34),(.builtin "proto.slot"),(.builtin "proto.slot#set"),(.int 4 0)]),#[]⟩),
   (39,⟨(.type "member_descriptor"),.none,(.fields #[(vs "parent" 237),(.ref 34),(.builtin "proto.slot"),(.builtin "proto.slot#set"),(.int 3 0)]),#[]⟩),
   (40,⟨(.type "member_descriptor"),.none,(.fields #[(vs "success" 239),(.ref 34),(.builtin "proto.slot"),(.builtin "proto.slot#set"),(.int 2 0)]),#[]⟩),
   (41,⟨(.type "member_descriptor"),.none,(.fields #[(vs "symbol" 241),(.ref 34),(.builtin "proto.slot"),(.builtin "proto.slot#set"),(.int 1 0)]),#[]⟩),
   (42,⟨(.type "member_descriptor"),.none,(.fields #[(vs "transitions" 243),(.ref 34),(.builtin "proto.slot"),(.builtin "proto.slot#set"),(.int 0 0)]),#[]⟩),
   (45,⟨(.type "tuple"),.none,(.seq #[tO] 0),#[]⟩),
   (52,⟨(.type "tuple"),.none,(.seq #[(.bool .false)] 0),#[]⟩),
   (53,⟨(.type "tuple"),.none,(.seq #[] 0),#[]⟩),
   (55,⟨(.type "tuple"),.none,(.seq #[(vs "self" 263),(vs "case_insensitive" 264)] 0),#[]⟩),
   (56,⟨(.type "tuple"),.none,(.seq #[] 0),#[]⟩),
   (58,⟨(.type "code"),.none,(.fields #[(vs "__init__" 260),(vs "KeywordTree.__init__" 261),(vs "/claim/cut.py" 262),(.int 15 0),(.int 2 0),(.int 0 0),(.int 0 0),(.int 3 0),(.ref 53),(.bool .true),(.int 181 0),(.ref 54),.none,(.ref 55),(.ref 56),(.ref 57),(.int 265 0),(.int 15 0),(vs "/claim/cut.py" 266)]),#[]⟩),
   (59,fO (s2 2 0) "KeywordTree.__init__" 3 [] (.ref 52) .none .none (vs "ahocorapy.keywordtree" 187) .none (.ref 58) .none 0),
   (60,⟨(.type "tuple"),.none,(.seq #[] 0),#[]⟩),
   (62,⟨(.type "tuple"),.none,(.seq #[(vs "self" 271),(vs "keyword" 272),(vs "original_keyword" 273),(vs "current_state" 274),(vs "char" 275),(vs "next_state" 276)] 0),#[]⟩),
   (63,⟨(.type "tuple"),.none,(.seq #[] 0),#[]⟩),
   (65,⟨(.type "code"),.none,(.fields #[(vs "add" 268),(vs "KeywordTree.add" 269),(vs "/claim/cut.py" 270),(.int 23 0),(.int 2 0),(.int 0 0),(.int 0 0),(.int 3 0),(.ref 60),(.bool .true),(.int 181 0),(.ref 61),.none,(.ref 62),(.ref 63),(.ref 64),(.int 277 0),(.int 23 0),(vs "/claim/cut.py" 278)]),#[]⟩),
   (66,fO (s2 2 1) "KeywordTree.add" 3 [] .none .none .none (vs "ahocorapy.keywordtree" 187) .none (.ref 65) .none 0),
   (67,⟨(.type "tuple"),.none,(.seq #[] 0),#[]⟩),
   (69,⟨(.type "tuple"),.none,(.seq #[(vs "self" 283),(vs "text" 284)] 0),#[]⟩),
   (70,⟨(.type "tuple"),.none,(.seq #[] 0),#[]⟩),
   (72,⟨(.type "code"),.none,(.fields #[(vs "search" 280),(vs "KeywordTree.search" 281),(vs "/claim/cut.py" 282),(.int 43 0),(.int 2 0),(.int 0 0),(.int 0 0),(.int 3 0),(.ref 67),(.bool .true),(.int 181 0),(.ref 68),.none,(.ref 69),(.ref 70),(.ref 71),(.int 285 0),(.int 43 0),(vs "/claim/cut.py" 286)]),#[]⟩),
   (73,fO (s2 2 2) "KeywordTree.search" 3 [] .none .none .none (vs "ahocorapy.keywordtree" 187) .none (.ref 72) .none 0),
   (74,⟨(.type "tuple"),.none,(.seq #[] 0),#[]⟩),
   (76,⟨(.type "tuple"),.none,(.seq #[(vs "self" 291),(vs "text" 292),(vs "result_gen" 293)] 0),#[]⟩),
   (77,⟨(.type "tuple"),.none,(.seq #[] 0),#[]⟩),
   (79,⟨(.type "code"),.none,(.fields #[(vs "search_one" 288),(vs "KeywordTree.search_one" 289),(vs "/claim/cut.py" 290),(.int 46 0),(.int 2 0),(.int 0 0),(.int 0 0),(.int 3 0),(.ref 74),(.bool .true),(.int 181 0),(.ref 75),.none,(.ref 76),(.ref 77),(.ref 78),(.int 294 0),(.int 46 0),(vs "/claim/cut.py" 295)]),#[]⟩),
   (80,fO (s2 2 3) "KeywordTree.search_one" 3 [] .none .none .none (vs "ahocorapy.keywordtree" 187) .none (.ref 79) .none 0),
   (81,⟨(.type "tuple"),.none,(.seq #[] 0),#[]⟩),
   (83,⟨(.type "tuple"),.none,(.seq #[(vs "self" 300),(vs "text" 301)] 0),#[]⟩),
   (84,⟨(.type "tuple"),.none,(.seq #[] 0),#[]⟩),
   (86,⟨(.type "code"),.none,(.fields #[(vs "search_all" 297),(vs "KeywordTree.search_all" 298),(vs "/claim/cut.py" 299),(.int 53 0),(.int 2 0),(.int 0 0),(.int 0 0),(.int 3 0),(.ref 81),(.bool .true),(.int 181 0),(.ref 82),.none,(.ref 83),(.ref 84),(.ref 85),(.int 302 0),(.int 53 0),(vs "/claim/cut.py" 303)]),#[]⟩),
   (87,fO (s2 2 4) "KeywordTree.search_all" 3 [] .none .none .none (vs "ahocorapy.keywordtree" 187) .none (.ref 86) .none 0),
   (88,⟨(.type "tuple"),.none,(.seq #[] 0),#[]⟩),
   (90,⟨(.type "tuple"),.none,(.seq #[(vs "self" 308),(vs "text" 309),(vs "zero_state" 310),(vs "zero_transitions_get" 311),(vs "current_state" 312),(vs "idx" 313),(vs "symbol" 314),(vs "next_state" 315),(vs "outputs" 316),(vs "keyword" 317),(vs "keyword_length" 318)] 0),#[]⟩),
   (91,⟨(.type "tuple"),.none,(.seq #[] 0),#[]⟩),
   (93,⟨(.type "code"),.none,(.fields #[(vs "_search_all_generic" 305),(vs "KeywordTree._search_all_generic" 306),(vs "/claim/cut.py" 307),(.int 60 0),(.int 2 0),(.int 0 0),(.int 0 0),(.int 35 0),(.ref 88),(.bool .true),(.int 181 0),(.ref 89),.none,(.ref 90),(.ref 91),(.ref 92),(.int 319 0),(.int 60 0),(vs "/claim/cut.py" 320)]),#[]⟩),
   (94,fO (s2 2 5) "KeywordTree._search_all_generic" 3 [] .none .none .none (vs "ahocorapy.keywordtree" 187) .none (.ref 93) .none 0),
   (95,⟨(.type "tuple"),.none,(.seq #[] 0),#[]⟩),
   (97,⟨(.type "tuple"),.none,(.seq #[(vs "self" 325)] 0),#[]⟩),
   (98,⟨(.type "tuple"),.none,(.seq #[] 0),#[]⟩),
   (100,⟨(.type "code"),.none,(.fields #[(vs "finalize" 322),(vs "KeywordTree.finalize" 323),(vs "/claim/cut.py" 324),(.int 82 0),(.int 1 0),(.int 0 0),(.int 0 0),(.int 3 0),(.ref 95),(.bool .true),(.int 181 0),(.ref 96),.none,(.ref 97),(.ref 98),(.ref 99),(.int 326 0),(.int 82 0),(vs "/claim/cut.py" 327)]),#[]⟩),
   (101,fO (s2 2 6) "KeywordTree.finalize" 3 [] .none .none .none (vs "ahocorapy.keywordtree" 187) .none (.ref 100) .none 0),
   (102,⟨(.type "tuple"),.none,(.seq #[] 0),#[]⟩),
   (104,⟨(.type "tuple"),.none,(.seq #[(vs "self" 332),(vs "zero_state" 333),(vs "processed" 334),(vs "to_process" 335),(vs "state" 336),(vs "child" 337),(vs "outputs" 338),(vs "suffix" 339),(vs "keyword" 340)] 0),#[]⟩),
   (105,⟨(.type "tuple"),.none,(.seq #[] 0),#[]⟩),
   (107,⟨(.type "code"),.none,(.fields #[(vs "_precompute_outputs" 329),(vs "KeywordTree._precompute_outputs" 330),(vs "/claim/cut.py" 331),(.int 90 0),(.int 1 0),(.int 0 0),(.int 0 0),(.int 3 0),(.ref 102),(.bool .true),(.int 181 0),(.ref 103),.none,(.ref 104),(.ref 105),(.ref 106),(.int 341 0),(.int 90 0),(vs "/claim/cut.py" 342)]),#[]⟩),
   (108,fO (s2 2 7) "KeywordTree._precompute_outputs" 3 [] .none .none .none (vs "ahocorapy.keywordtree" 187) .none (.ref 107) .none 0),
   (109,⟨(.type "tuple"),.none,(.seq #[] 0),#[]⟩),
   (111,⟨(.type "tuple"),.none,(.seq #[(vs "self" 347),(vs "zero_state" 348),(vs "processed" 349),(vs "to_process" 350),(vs "state" 351),(vs "child" 352)] 0),#[]⟩),
   (112,⟨(.type "tuple"),.none,(.seq #[] 0),#[]⟩),
   (114,⟨(.type "code"),.none,(.fields #[(vs "search_lss_for_children" 344),(vs "KeywordTree.search_lss_for_children" 345),(vs "/claim/cut.py" 346),(.int 110 0),(.int 2 0),(.int 0 0),(.int 0 0),(.int 3 0),(.ref 109),(.bool .true),(.int 181 0),(.ref 110),.none,(.ref 111),(.ref 112),(.ref 113),(.int 353 0),(.int 110 0),(vs "/claim/cut.py" 354)]),#[]⟩),
   (115,fO (s2 2 8) "KeywordTree.search_lss_for_children" 3 [] .none .none .none (vs "ahocorapy.keywordtree" 187) .none (.ref 114) .none 0),
   (116,⟨(.type "tuple"),.none,(.seq #[] 0),#[]⟩),
   (118,⟨(.type "tuple"),.none,(.seq #[(vs "self" 359),(vs "state" 360),(vs "zero_state" 361),(vs "parent" 362),(vs "traversed" 363),(vs "suffix" 364),(vs "symbol" 365),(vs "next_state" 366)] 0),#[]⟩),
   (119,⟨(.type "tuple"),.none,(.seq #[] 0),#[]⟩),
   (121,⟨(.type "code"),.none,(.fields #[(vs "search_lss" 356),(vs "KeywordTree.search_lss" 357),(vs "/claim/cut.py" 358),(.int 121 0),(.int 2 0),(.int 0 0),(.int 0 0),(.int 3 0),(.ref 116),(.bool .true),(.int 181 0),(.ref 117),.none,(.ref 118),(.ref 119),(.ref 120),(.int 367 0),(.int 121 0),(vs "/claim/cut.py" 368)]),#[]⟩),
   (122,fO (s2 2 9) "KeywordTree.search_lss" 3 [] .none .none .none (vs "ahocorapy.keywordtree" 187) .none (.ref 121) .none 0),
   (123,⟨(.type "tuple"),.none,(.seq #[(vs "_case_insensitive" 370),(vs "_counter" 371),(vs "_finalized" 372),(vs "_skip_pattern" 373),(vs "_skip_pattern_type" 374),(vs "_zero_state" 375)] 0),#[]⟩),
   (124,⟨(.type "dict"),.none,(.dict #[de P "__module__" 255 (vs "ahocorapy.keywordtree" 187),de P "__firstlineno__" 259 (.int 13 258),de P "__init__" 267 (.ref 59),de P "add" 279 (.ref 66),de P "search" 287 (.ref 73),de P "search_one" 296 (.ref 80),de P "search_all" 304 (.ref 87),de P "_search_all_generic" 321 (.ref 94),de P "finalize" 328 (.ref 101),de P "_precompute_outputs" 343 (.ref 108),de P "search_lss_for_children" 355 (.ref 115),de P "search_lss" 369 (.ref 122),de P "__static_attributes__" 376 (.ref 123),de P "__dict__" 378 (.ref 126),de P "__weakref__" 380 (.ref 127),de P "__doc__" 381 .none] 4),#[]⟩),
   (125,⟨(.type "type"),.none,(.cls ⟨(.ofString "KeywordTree"),[tO],[(.ref 125),tO],124,(.ofString "KeywordTree"),.true,[],[],.false,.none,.false⟩),#[(.some (.ref 45)),.none,(.some (vs "KeywordTree" 248)),(.some (vs "KeywordTree" 256)),(.some (.builtin "object.__new__")),(.some (.bool .true))]⟩),
   (126,⟨(.type "getset_descriptor"),.none,(.fields #[(vs "__dict__" 377),(.ref 125),(.builtin "function.__dict__"),(.builtin "function.__dict__#set")]),#[]⟩),
   (127,⟨(.type "getset_descriptor"),.none,(.fields #[(vs "__weakref__" 379),(.ref 125),(.builtin "ExceptionGroup.__weakref__"),.none]),#[]⟩),
   (130,⟨(.type "tuple"),.none,(.seq #[] 0),#[]⟩),
   (133,⟨(.type "code"),.none,(.fields #[(vs "_law_row" 386),(vs "_law_row" 387),(vs "/claim/cut.py" 388),(.int 143 0),(.int 3 0),(.int 0 0),(.int 0 0),(.int 3 0),(.ref 130),(.bool .true),(.int 181 0),(.ref 131),.none,.none,.none,(.ref 132),(.int 389 0),(.int 143 0),(vs "/claim/cut.py" 390)]),#[]⟩),
   (134,fO (s1 4) "_law_row" 3 [] .none .none .none (vs "law_nc0003_03" 384) .none (.ref 133) .none 0),
   (135,⟨(.type "tuple"),.none,(.seq #[] 0),#[]⟩),
   (137,⟨(.type "tuple"),.none,(.seq #[(vs "row" 395),(vs "among" 396),(vs "start" 397)] 0),#[]⟩),
   (138,⟨(.type "tuple"),.none,(.seq #[] 0),#[]⟩),
   (140,⟨(.type "code"),.none,(.fields #[(vs "_law_longest_end" 392),(vs "_law_longest_end" 393),(vs "/claim/cut.py" 394),(.int 146 0),(.int 2 0),(.int 0 0),(.int 0 0),(.int 3 0),(.ref 135),(.bool .true),(.int 181 0),(.ref 136),.none,(.ref 137),(.ref 138),(.ref 139),(.int 398 0),(.int 146 0),(vs "/claim/cut.py" 399)]),#[]⟩),
   (141,fO (s1 5) "_law_longest_end" 3 [] .none .none .none (vs "law_nc0003_03" 384) .none (.ref 140) .none 0),
   (142,⟨(.type "tuple"),.none,(.seq #[] 0),#[]⟩),
   (144,⟨(.type "tuple"),.none,(.seq #[(vs "state" 404),(vs "spelled" 405)] 0),#[]⟩),
   (145,⟨(.type "tuple"),.none,(.seq #[] 0),#[]⟩),
   (147,⟨(.type "code"),.none,(.fields #[(vs "_law_spelled" 401),(vs "_law_spelled" 402),(vs "/claim/cut.py" 403),(.int 151 0),(.int 1 0),(.int 0 0),(.int 0 0),(.int 3 0),(.ref 142),(.bool .true),(.int 181 0),(.ref 143),.none,(.ref 144),(.ref 145),(.ref 146),(.int 406 0),(.int 151 0),(vs "/claim/cut.py" 407)]),#[]⟩),
   (148,fO (s1 6) "_law_spelled" 3 [] .none .none .none (vs "law_nc0003_03" 384) .none (.ref 147) .none 0),
   (149,⟨(.type "tuple"),.none,(.seq #[] 0),#[]⟩),
   (152,⟨(.type "code"),.none,(.fields #[(vs "_law_due" 409),(vs "_law_due" 410),(vs "/claim/cut.py" 411),(.int 157 0),(.int 3 0),(.int 0 0),(.int 0 0),(.int 3 0),(.ref 149),(.bool .true),(.int 181 0),(.ref 150),.none,.none,.none,(.ref 151),(.int 412 0),(.int 157 0),(vs "/claim/cut.py" 413)]),#[]⟩),
   (153,fO (s1 7) "_law_due" 3 [] .none .none .none (vs "law_nc0003_03" 384) .none (.ref 152) .none 0),
   (154,⟨(.type "tuple"),.none,(.seq #[] 0),#[]⟩),
   (157,⟨(.type "code"),.none,(.fields #[(vs "_law_is_machine" 415),(vs "_law_is_machine" 416),(vs "/claim/cut.py" 417),(.int 169 0),(.int 2 0),(.int 0 0),(.int 0 0),(.int 3 0),(.ref 154),(.bool .true),(.int 181 0),(.ref 155),.none,.none,.none,(.ref 156),(.int 418 0),(.int 169 0),(vs "/claim/cut.py" 419)]),#[]⟩),
   (158,fO (s1 8) "_law_is_machine" 3 [] .none .none .none (vs "law_nc0003_03" 384) .none (.ref 157) .none 0),
   (159,⟨(.type "tuple"),.none,(.seq #[] 0),#[]⟩),
   (162,⟨(.type "code"),.none,(.fields #[(vs "law" 421),(vs "law" 422),(vs "/claim/cut.py" 423),(.int 193 0),(.int 1 0),(.int 0 0),(.int 0 0),(.int 3 0),(.ref 159),(.bool .true),(.int 181 0),(.ref 160),.none,.none,.none,(.ref 161),(.int 424 0),(.int 193 0),(vs "/claim/cut.py" 425)]),#[]⟩),
   (163,fO (s1 9) "law" 3 [] .none .none .none (vs "law_nc0003_03" 384) .none (.ref 162) .none 0)]
noncomputable def kAs : List Addr := [2,3,15,22,23,24,26,27,29,30,31,33,34,35,36,37,38,39,40,41,42,45,52,53,55,56,58,59,60,62,63,65,66,67,69,70,72,73,74,76,77,79,80,81,83,84,86,87,88,90,91,93,94,95,97,98,100,101,102,104,105,107,108,109,111,112,114,115,116,118,119,121,122,123,124,125,126,127,130,133,134,135,137,138,140,141,142,144,145,147,148,149,152,153,154,157,158,159,162,163]
noncomputable def view : Program := { Challenge.pw_nc0003_03 with main := { Challenge.pw_nc0003_03.main with body := [s1 1,s1 2,s1 4,s1 5,s1 6,s1 7,s1 8,s1 9] } }
theorem kF_as (P : Params) : kAs = (kF P).map (·.1) := by kernel_rfl
noncomputable def kH : Hook := kHook kF kAs kF_as
theorem left_ok : LeftO Challenge.rw_nc0003_03.row.prog view [.ofString "State",.ofString "KeywordTree"] (fun s => xlAt view [] s && recOk (RowW.records Challenge.rw_nc0003_03.row.toRowW) s) kH.obs kH.val 2142 := fun w => by kernel_rfl
end
section
theorem slot_mdd_get : Slot "method_descriptor" "__get__" "method_descriptor.__get__" :=
 .of (owner := "method_descriptor") (n := "__get__") (by rw [typeLookup_type,builtinLookup_eq_fast]; kernel_rfl) (by decide +kernel) (by decide +kernel) (by decide +kernel)
  (by first | exact .inl (by decide +kernel) | exact .inr (by decide +kernel)) (by rw [isSubtype_type]; kernel_rfl)
theorem no_mdd_set : typeLookup (.type "method_descriptor") "__set__" = pure none := by rw [typeLookup_type,builtinLookup_eq_fast]; kernel_rfl
theorem no_mdd_del : typeLookup (.type "method_descriptor") "__delete__" = pure none := by rw [typeLookup_type,builtinLookup_eq_fast]; kernel_rfl
theorem entry_mdd_get : entryFor table "method_descriptor.__get__" = some Builtin.«method_descriptor.__get__» := entryFor_of_tree (by kernel_rfl)
theorem args_mdd_get (a b c : Value) : argsOk "method_descriptor.__get__" ⟨[a,b,c],[]⟩ := by unfold argsOk; kernel_rfl
theorem owner_dict_get : (".".intercalate ("dict.get".cutAt '.').dropLast) = "dict" := by
 have e0 : "dict.get".cutAt '.' = ["dict","get"] := by first | rfl | decide +kernel
 rw [e0]; decide +kernel
theorem told_dict_get : Manifest.toldItsClass.contains "dict.get" = false := by decide +kernel
theorem entry_dict_ga : entryFor table "dict.__getattribute__" = some Builtin.«object.__getattribute__» :=
 entryFor_alias (id' := "object.__getattribute__") (by kernel_rfl) (by decide +kernel) (by decide +kernel) (by kernel_rfl)
theorem no_dict_getattr : typeLookup (.type "dict") "__getattr__" = pure none := by rw [typeLookup_type,builtinLookup_eq_fast]; kernel_rfl
theorem sub_dict : isSubtype (.type "dict") (.type "dict") = pure true := by rw [isSubtype_type]; kernel_rfl
noncomputable def getMeth (a : Addr) : Obj := { cls := .type "builtin_function_or_method",data := .fields #[.builtin "dict.get",.ref a] }
section
variable {prog : Program} {w : World} {A : Around} {E : Value → Shared → Prop} {h : Heap} {g : Array GenState} {d : Drawn} {t : Nat} {os : OsState} {a : Addr} {o : Obj}
theorem mdd_get {R : Result → Shared → Prop} (hx : h.get? a = some o) (hc : o.cls = .type "dict") (hq : R (.ok (.ret (.ref h.objs.size))) ⟨h.push (getMeth a),g,d,t,os⟩) :
  codeAny (model prog w) A (.call (.builtin "method_descriptor.__get__") ⟨[.builtin "dict.get",.ref a,.type "dict"],[]⟩) R ⟨h,g,d,t,os⟩ := by
 have hT : (⟨h,g,d,t,os⟩ : Shared).TypeIs (.ref a) "dict" := ⟨_,hx,hc⟩
 have hT5 : (⟨h,g,d,t,os⟩ : Shared).TypeIs (.builtin "dict.get") "method_descriptor" := PySem.F.type_dict_get
 have f8 : isSubtype (.type "dict") (.type (".".intercalate ("dict.get".cutAt '.').dropLast)) = pure true := by rw [owner_dict_get]; exact sub_dict
 have f9 := told_dict_get
 refine codeAny_call_builtin slot_mdd_get.plain entry_mdd_get (slot_mdd_get.check _ _ _ _ _ _ _ _ hT5 (args_mdd_get _ _ _) ?_)
 unfold Builtin.«method_descriptor.__get__»
 repeat (any_goals (first | assumption | wp_step))
theorem dget_entry {tk : Tok} {Q : Fin → Shared → Prop} (hx : h.get? a = some o) (hc : o.cls = .type "dict") (hd : o.dict = none) (hdat : ∃ es ep,o.data = .dict es ep) (hq : Q (.done (.ret (.ref h.objs.size))) ⟨h.push (getMeth a),g,d,t,os⟩) :
  wpAny (model prog w) A (Builtin.«object.__getattribute__» ⟨[.ref a,.str "get" tk],[]⟩) Q E ⟨h,g,d,t,os⟩ := by
 obtain ⟨es,ep,hdat⟩ := hdat
 obtain ⟨c,dct,dat,sl⟩ := o
 simp only at hc hdat hd
 subst hc hdat hd
 have hT : (⟨h,g,d,t,os⟩ : Shared).TypeIs (.ref a) "dict" := ⟨_,hx,rfl⟩
 have hT5 : (⟨h,g,d,t,os⟩ : Shared).TypeIs (.builtin "dict.get") "method_descriptor" := PySem.F.type_dict_get
 have f4 := PySem.F.slot_dict_get.lookup
 have f5 := PySem.F.type_dict_get
 have f6 := slot_mdd_get.lookup
 have f7 := no_mdd_set
 have f8 := no_mdd_del
 unfold Builtin.«object.__getattribute__»
 repeat (any_goals (first | assumption | wp_step))
 refine mdd_get hx rfl ?_
 exact wpAny_pure hq
theorem dget_by {tk : Tok} {fill expr : Bool} {Q : Value → Shared → Prop} (hx : h.get? a = some o) (hc : o.cls = .type "dict") (hd : o.dict = none) (hdat : ∃ es ep,o.data = .dict es ep)
  (hq : Q (.ref h.objs.size) ⟨h.push (getMeth a),g,d,t,os⟩) : wpAny (model prog w) A (getAttrBy (.ref a) (.str "get" tk) fill expr) Q E ⟨h,g,d,t,os⟩ := by
 have hT : (⟨h,g,d,t,os⟩ : Shared).TypeIs (.ref a) "dict" := ⟨_,hx,hc⟩
 have f2 := PySem.F.slot_dict_getattribute.lookup
 have f3 := PySem.F.slot_dict_getattribute.bind (.ref a)
 have f5 := no_dict_getattr
 have hx0 : (expr && onTheHeap (Value.builtin "dict.__getattribute__")) = false := by cases expr <;> rfl
 repeat (any_goals (first | assumption | wp_step))
 refine codeAny_call_builtin PySem.F.slot_dict_getattribute.plain entry_dict_ga (PySem.F.slot_dict_getattribute.check _ _ _ _ _ _ _ _ hT (PySem.F.args_dict_getattribute_2 _ _) (dget_entry hx hc hd hdat ?_))
 repeat (any_goals (first | assumption | wp_step))
theorem dget_attr {expr : Bool} {Q : Value → Shared → Prop} (hx : h.get? a = some o) (hc : o.cls = .type "dict") (hd : o.dict = none) (hdat : ∃ es ep,o.data = .dict es ep)
  (hq : Q (.ref h.objs.size) ⟨h.push (getMeth a),g,d,t + 1,os⟩) : wpAny (model prog w) A (getAttr (.ref a) "get" expr) Q E ⟨h,g,d,t,os⟩ := by
 unfold getAttr
 repeat (any_goals (first | assumption | with_reducible apply dget_by hx hc hd hdat | wp_step))
end
section
variable {prog : Program} {w : World} {A : Around} {E : Value → Shared → Prop} {s : Shared}
theorem getAttr_get {a : Addr} {o : Obj} {expr : Bool} {Q : Value → Shared → Prop} (hx : s.heap.get? a = some o) (hc : o.cls = .type "dict") (hd : o.dict = none) (hdat : ∃ es ep,o.data = .dict es ep)
  (hq : Q (.ref s.heap.objs.size) { s with heap := s.heap.push (getMeth a),toks := s.toks + 1 }) : wpAny (model prog w) A (getAttr (.ref a) "get" expr) Q E s := by
 obtain ⟨hp,g,d,t,os⟩ := s
 exact dget_attr hx hc hd hdat hq
theorem kind_get : builtinKind "dict.get" = some .method := by kernel_rfl
theorem sub_dict_module : isSubtype (.type "dict") (.type "module") = pure false := by rw [isSubtype_type]; kernel_rfl
theorem vararg_get : Manifest.varargsMethods.contains "dict.get" = false := by decide +kernel
theorem chk_get (a : Addr) (k : Value) : (match Manifest.signature? "dict.get" with | some sig => Bind.checkArgs "dict.get" { sig with full := s!"{Bind.lastOf "dict"}.{Bind.lastOf "dict.get"}" } ⟨[.ref a,k],[]⟩ | none => pure ()) = pure () := by kernel_rfl
theorem wpAny_bound_get {a : Addr} {o : Obj} {k : Value} {Q : Unit → Shared → Prop} (hx : s.heap.get? a = some o) (hc : o.cls = .type "dict") (hdat : ∃ es ep,o.data = .dict es ep) (hq : Q () s) : wpAny (model prog w) A (checkBoundCall "dict.get" ⟨[.ref a,k],[]⟩) Q E s := by
 have hT : s.TypeIs (.ref a) "dict" := ⟨_,hx,hc⟩
 have hk := chk_get a k
 unfold checkBoundCall
 cases hsig : Manifest.signature? "dict.get" with
 | none => exact wpAny_pure hq
 | some sig =>
  rw [hsig] at hk
  dsimp only at hk
  simp only [kind_get]
  rw [if_neg (by decide)]
  refine wpAny_bind (wpAny_isInstance hT sub_dict_module ?_)
  rw [vararg_get]
  simp only [Bool.or_self,Bool.false_eq_true,if_false]
  obtain ⟨es,ep,hdat⟩ := hdat
  have hty : wpAny (model prog w) A (isType (.ref a)) (fun b s' => b = false ∧ s' = s) E s := by
   show wpAny _ _ (loadHead a >>= fun o => pure (match o.data with | .cls _ => true | _ => false)) _ _ s
   refine wpAny_bind (wpAny_loadPart hx (wpAny_pure ?_))
   rw [hdat]; exact ⟨rfl,rfl⟩
  refine wpAny_bind (wpAny_mono hty (fun b s' z => ?_) fun _ _ e => e)
  obtain ⟨rfl,rfl⟩ := z
  simp only [Bool.false_eq_true,if_false]
  refine wpAny_bind (wpAny_typeOf hT ?_)
  show wpAny _ _ (Bind.checkArgs "dict.get" _ _) _ _ _
  rw [hk]
  exact wpAny_pure hq
theorem call_getMeth {K : Type} [DecidableEq K] {knd : KeyKind prog w K} {p a : Addr} {k : K} {key : Value} {f : K → Option Value} {Q : Value → Shared → Prop} (hp : s.heap.get? p = some (getMeth a)) (hm : s.heap.MapOf knd a f) (hkey : knd.is k key = true) (hsys : (a == sysModules) = false)
  (hdat : ∃ o es ep,s.heap.get? a = some o ∧ o.cls = .type "dict" ∧ o.data = .dict es ep)
  (h : Q ((f k).getD .none) { s with toks := s.toks + 1 }) : wpAny (model prog w) A (call (.ref p) [key]) Q E s := by
 refine wpAny_call ?_
 refine codeAny_of_tree ?_
 show wpAny _ _ (callAny (.ref p) _) _ _ _
 obtain ⟨o,es,ep,hx,hc,hd⟩ := hdat
 obtain ⟨hh,g,dr,t,os⟩ := s
 dsimp only at hp
 refine nd_load hp ?_
 show wpAny _ _ (do checkBoundCall "dict.get" ⟨[.ref a,key],[]⟩; again (.builtin "dict.get" ⟨[.ref a,key],[]⟩)) _ _ _
 refine wpAny_bind (wpAny_bound_get hx hc ⟨es,ep,hd⟩ ?_)
 refine wpAny_pure ⟨plainId_quiet PySem.F.slot_dict_get.plain _,codeAny_builtin PySem.F.entry_dict_get ?_⟩
 rw [Around.under_plainId PySem.F.slot_dict_get.plain _]
 exact meets_dict_get knd a hkey hsys A (fun r s' => match r with | .ok (.ret v) => Q v s' | .ok _ => False | .error e => E e s') _ ⟨f,hm,h⟩
end
end
section
noncomputable abbrev SX := @PySem.W.X.SegX
section
variable {prog : Program} {w : World} {A : Around} {c : Code} {fs : List Frame} {P : End → Shared → Prop} {s : Shared} {α β : Type} {K : α → Sem Fin} {H : Value → Sem Fin} {gd : Bool → Bool} {lv : List Value → List Value} {env : Env}
theorem sx_wp {m : Sem α} (h : wpAny (model prog w) (A.over c fs) m (fun a s' => SX (model prog w) A c (K a) fs s' P) (fun x s' => SX (model prog w) A c (H x) fs s' P) s) : SX (model prog w) A c (m.wrap K H gd lv) fs s P := by
 rintro Γ p rfl hΓ
 obtain ⟨e,s',hr,hq⟩ := runs_wrap_of_wp (Φ := fun e s' => e.quiet = true ∧ P e s') K H gd lv m (h (Γ.over fs) p (hΓ.over fs)) (fun a p' s' h' => h' Γ p' rfl hΓ) (fun x p' s' h' => h' Γ p' rfl hΓ)
 exact ⟨e,s',hr,hq⟩
theorem sx_bind {m : Sem β} {f : β → Sem α} (h : SX (model prog w) A c (m.wrap (fun b => (f b).wrap K H gd lv) H gd lv) fs s P) : SX (model prog w) A c ((m >>= f).wrap K H gd lv) fs s P := by
 rw [Sem.bind_eq_wrap',Sem.wrap_wrap]; exact h
theorem sx_bind0 {m : Sem α} {f : α → Sem Fin} (h : SX (model prog w) A c (m.wrap f .raise id id) fs s P) : SX (model prog w) A c (m >>= f) fs s P := by
 rw [Sem.bind_eq_wrap']; exact h
theorem sx_onRaise {m : Sem α} {h' : Value → Sem Unit} (h : SX (model prog w) A c (m.wrap K (fun e => ((h' e).bind fun _ => Sem.raise e).wrap K H gd lv) gd lv) fs s P) : SX (model prog w) A c ((m.onRaise h').wrap K H gd lv) fs s P := by
 rw [Sem.onRaise_eq_wrap,Sem.wrap_wrap]; exact h
theorem sx_onRaise0 {m : Sem Fin} {h' : Value → Sem Unit} (h : SX (model prog w) A c (m.wrap .pure (fun e => (h' e).bind fun _ => Sem.raise e) id id) fs s P) : SX (model prog w) A c (m.onRaise h') fs s P := by
 rw [Sem.onRaise_eq_wrap]; exact h
theorem sx_execs_cons {st : Stmt} {rest : List Stmt} {K : Flow → Sem Fin} (h : SX (model prog w) A c ((exec st env).wrap (fun f => match f with | .next => (execs rest env).wrap K H gd lv | f => K f) H gd lv) fs s P) :
  SX (model prog w) A c ((execs (st :: rest) env).wrap K H gd lv) fs s P := by
 rw [execs_cons]
 refine sx_bind ?_
 have e := Sem.wrap_congr (m := exec st env) (K := fun (b : Flow) => ((match b with | .next => execs rest env | f => pure f) : Sem Flow).wrap K H gd lv) (K' := fun (f : Flow) => match f with | .next => (execs rest env).wrap K H gd lv | f => K f) (H := H) (H' := H) gd lv (fun b => by cases b <;> rfl) fun _ => rfl
 rw [← e] at h
 exact h
theorem sx_execs_nil {K : Flow → Sem Fin} (h : SX (model prog w) A c (K .next) fs s P) : SX (model prog w) A c ((execs [] env).wrap K H gd lv) fs s P := h
theorem sx_stmt {st : Stmt} {rest : List Stmt} {K : Flow → Sem Fin} (h : wpAny (model prog w) (A.over c fs) (exec st env) (fun f s' => match f with | .next => SX (model prog w) A c ((execs rest env).wrap K H gd lv) fs s' P | f => SX (model prog w) A c (K f) fs s' P) (fun e s' => SX (model prog w) A c (H e) fs s' P) s) :
  SX (model prog w) A c ((execs (st :: rest) env).wrap K H gd lv) fs s P :=
 sx_execs_cons (sx_wp (wpAny_mono h (fun f s' x => by cases f <;> exact x) fun _ _ x => x))
theorem sx_if {t : Expr} {b o : List Stmt} {pos : Pos} {K : Flow → Sem Fin} {cnd : Bool} (h : wpAny (model prog w) (A.over c fs) (isTrue t env (eval t env)) (fun x s' => x = cnd ∧ SX (model prog w) A c ((execs (if cnd then b else o) env).wrap K H gd lv) fs s' P) (fun e s' => SX (model prog w) A c (H e) fs s' P) s) :
  SX (model prog w) A c ((exec (.If t b o pos) env).wrap K H gd lv) fs s P := by
 rw [exec_If]
 refine sx_bind (sx_wp (wpAny_standAt ?_))
 refine sx_bind (sx_wp (wpAny_mono h (fun x s' z => ?_) fun _ _ x => x))
 obtain ⟨rfl,z⟩ := z
 cases x <;> exact z
theorem sx_for {target iter : Expr} {body : List Stmt} {pos : Pos} {K : Flow → Sem Fin} (hs : ∀ x,foldedSetIterable iter env x = pure x)
  (h : wpAny (model prog w) (A.over c fs) (eval iter env) (fun x s1 => wpAny (model prog w) (A.over c fs) (pyIter x) (fun it s2 => ∀ kf g' l' p,(∀ f,kf (.ok f) = K f) → g' = gd false → SX (model prog w) A (.forLoop target it body [] env) (denote table (.forLoop target it body [] env)) (.ret kf none g' l' c p [] :: fs) s2 P) (fun e s' => SX (model prog w) A c (H e) fs s' P) s1) (fun e s' => SX (model prog w) A c (H e) fs s' P) s) :
  SX (model prog w) A c ((exec (.For target iter body [] pos) env).wrap K H gd lv) fs s P := by
 rw [exec_For]
 refine sx_bind (sx_wp (wpAny_standAt ?_))
 refine sx_bind (sx_wp (wpAny_mono h (fun x s1 h1 => ?_) fun _ _ x => x))
 refine sx_bind (sx_wp (wpAny_of_eq (hs x) ?_))
 refine sx_bind (sx_wp (wpAny_standAt ?_))
 refine sx_bind (sx_wp (wpAny_holding (wpAny_mono h1 (fun it s2 h2 => ?_) fun _ _ x => x)))
 unfold runOwn
 refine sx_onRaise ?_
 refine PySem.W.X.s_call prog w A c fs P s2 _ _ _ _ _ fun p => ?_
 exact h2 _ _ _ p (fun f => rfl) rfl
theorem sx_turn {target : Expr} {it : Value} {body : List Stmt} {kf : Result → Sem Fin} {hd : Option Value} {g : Bool} {l : List Value} {p : Pos} {kp : List Value}
  (h : wpAny (model prog w) (A.over (.forLoop target it body [] env) (.ret kf hd g l c p kp :: fs)) (pyNext it) (fun r s1 => match r with
   | none => SX (model prog w) A c (kf (.ok .next)) fs s1 P
   | some v => wpAny (model prog w) (A.over (.forLoop target it body [] env) (.ret kf hd g l c p kp :: fs)) (letOwnedTupleGo target it v) (fun _ s1' => wpAny (model prog w) (A.over (.forLoop target it body [] env) (.ret kf hd g l c p kp :: fs)) (assign target env v) (fun _ s2 =>
     ∀ (K : Flow → Sem Fin) (H : Value → Sem Fin),(∀ s3 P,SX (model prog w) A (.forLoop target it body [] env) (denote table (.forLoop target it body [] env)) (.ret kf hd g l c p kp :: fs) s3 P →
       SX (model prog w) A (.forLoop target it body [] env) (K .next) (.ret kf hd g l c p kp :: fs) s3 P ∧ SX (model prog w) A (.forLoop target it body [] env) (K .cont) (.ret kf hd g l c p kp :: fs) s3 P) →
      SX (model prog w) A (.forLoop target it body [] env) ((execs body env).wrap K H id id) (.ret kf hd g l c p kp :: fs) s2 P) (fun _ _ => False) s1') (fun _ _ => False) s1) (fun _ _ => False) s) :
  SX (model prog w) A (.forLoop target it body [] env) (denote table (.forLoop target it body [] env)) (.ret kf hd g l c p kp :: fs) s P := by
 show SX _ _ _ ((forTurn target it body [] env).onRaise (fun x => do noteFrame x env; theTreesLotGoes x)) _ _ _
 refine sx_onRaise0 ?_
 unfold forTurn
 refine sx_bind (sx_wp (wpAny_standAt ?_))
 refine sx_bind (sx_onRaise (sx_wp (wpAny_mono h (fun r s1 h1 => ?_) fun _ _ x => x.elim)))
 cases r with
 | none =>
  dsimp only
  refine PySem.W.X.s_again prog w A _ _ P s1 (.block [] env) rfl ?_
  show SX _ _ _ (((execs [] env).onRaise _) >>= _) _ _ _
  refine sx_bind0 (sx_onRaise (sx_execs_nil ?_))
  exact PySem.W.X.s_pop prog w A _ fs P s1 (.ok .next) _ rfl _ _ _ _ _ _ _ h1
 | some v =>
  dsimp only at h1 ⊢
  refine sx_bind (sx_wp (wpAny_mono h1 (fun _ s1' h2 => ?_) fun _ _ x => x.elim))
  refine sx_bind (sx_wp (wpAny_mono h2 (fun _ s2 h3 => ?_) fun _ _ x => x.elim))
  refine sx_bind (h3 _ _ fun s3 P z => ?_)
  have z' := PySem.W.X.s_again prog w A (.forLoop target it body [] env) (.ret kf hd g l c p kp :: fs) P s3 (.forLoop target it body [] env) rfl z
  exact ⟨z',z'⟩
theorem sx_yield {e : Expr} {yp sp : Pos} {K : Flow → Sem Fin} (hi : interactive env = false) (hs : swapsWith (.Yield (some e) yp) none sp.line env = pure false) (hco : env.scope.isCoroutine = false) (hfs : splitAtGen fs = none) (hfg : fs.any Frame.guarded = false) (hgd : gd false = false)
  (h : wpAny (model prog w) (A.over c fs) (eval e env) (fun v s1 => ∀ (k : Resume → Sem Fin) (l : List Value) p,(∀ s2 P,SX (model prog w) A c (K .next) fs s2 P → SX (model prog w) A c (k (.send .none)) fs s2 P) → P (.susp v false l k c p fs) s1) (fun _ _ => False) s) :
  SX (model prog w) A c ((exec (.Expr (.Yield (some e) yp) sp) env).wrap K H gd lv) fs s P := by
 rw [exec_Expr env _ _ hi hs]
 refine sx_bind (sx_wp (wpAny_standAt ?_))
 refine sx_bind ?_
 rw [arm_eval_Yield]
 refine sx_bind ?_
 show SX _ _ _ ((eval e env).wrap _ _ _ _) _ _ _
 refine sx_wp (wpAny_mono h (fun v s1 h1 => ?_) fun _ _ x => x.elim)
 refine sx_bind (sx_wp (wpAny_standAt ?_))
 unfold yieldOut
 rw [hco]
 simp only [Bool.false_eq_true,if_false]
 unfold yieldValue
 refine sx_bind ?_
 show SX _ _ _ (Sem.yield v (gd false) (lv []) _) _ _ _
 rw [hgd]
 refine PySem.W.X.s_yield prog w A c fs P s1 v _ _ hfs hfg fun p => h1 _ _ p fun s2 P z => z
end
end
section
section
variable {prog : Program} {w : World} {A : Around} {E : Value → Shared → Prop} {s : Shared}
open AutoSeq1 (wpAny_loadPart')
theorem enum_new_tuple (l : Addr) (items : Array Value) (n : Nat) :
  Meets (Builtin.«enumerate.__new__» ⟨[.type "enumerate",.ref l],[]⟩) (fun _ R s => (∃ o,s.heap.get? l = some o ∧ o.cls = .type "tuple" ∧ o.data = .seq items n) ∧
   R (.ok (.ret (.ref (s.heap.push { cls := .type "tuple_iterator",data := .fields #[.ref l,.int 0 0] }).objs.size)))
    { s with heap := (s.heap.push { cls := .type "tuple_iterator",data := .fields #[.ref l,.int 0 0] }).push { cls := .type "enumerate",data := .fields #[.none,.bool false,.ref s.heap.objs.size,rawInt 0,.none,.none] } }) :=
 .of_wp fun prog w A R s h => by
  obtain ⟨hp,g,d,tk,os⟩ := s; obtain ⟨⟨o,hl,hc,hd⟩,h⟩ := h
  have hsub := sub_enumerate
  have hL : Heap.IsTuple (Shared.heap ⟨hp,g,d,tk,os⟩) l items := ⟨_,hl,hc,n,hd⟩
  have hl : hp.get? l = some o := hl
  wp_walk using wpAny_loadPart' hl
  refine wpAny_stack_any fun st => wpAny_pure ?_
  split
  ·rename_i c _ _ _ _ _
   cases (c == Value.type "enumerate")
   ·wp_walk using wpAny_loadPart' hl,wpAny_pyIter_tuple hL
    exact ⟨_,rfl,h⟩
   ·wp_walk using wpAny_loadPart' hl,wpAny_pyIter_tuple hL
    exact ⟨_,rfl,h⟩
  ·wp_walk using wpAny_loadPart' hl,wpAny_pyIter_tuple hL
   exact ⟨_,rfl,h⟩
theorem call_enum_tuple {l : Addr} {items : Array Value} {Q : Value → Shared → Prop} (hl : s.heap.IsTuple l items)
  (h : ∀ h',IsEnum h' (s.heap.objs.size + 1) s.heap.objs.size 0 .none → h'.IsTupleIter s.heap.objs.size l 0 → h'.objs.size = s.heap.objs.size + 2 →
   (∀ b o,s.heap.get? b = some o → h'.get? b = some o) → Q (.ref (s.heap.objs.size + 1)) { s with heap := h' }) :
  wpAny (model prog w) A (call (.type "enumerate") [.ref l]) Q E s := by
 obtain ⟨o,ho,hc,n,hd⟩ := hl
 refine callType_new PySem.F.called_enumerate (by decide) (PySem.F.typeCall_enumerate_1 _) (PySem.F.newCall_enumerate_1 _) (fun obj => PySem.F.args_object_init_2 obj _) PySem.F.entry_enumerate_new
  (enum_new_tuple l items n) ⟨⟨o,ho,hc,hd⟩,?_⟩
 have hz : (s.heap.push { cls := .type "tuple_iterator",data := .fields #[.ref l,.int 0 0] }).objs.size = s.heap.objs.size + 1 := Heap.size_push ..
 show _ ∧ _
 rw [hz]
 have he : IsEnum ((s.heap.push { cls := .type "tuple_iterator",data := .fields #[.ref l,.int 0 0] }).push
   { cls := .type "enumerate",data := .fields #[.none,.bool false,.ref s.heap.objs.size,rawInt 0,.none,.none] }) (s.heap.objs.size + 1) s.heap.objs.size 0 .none := by
  have := Heap.get?_push_size (s.heap.push { cls := .type "tuple_iterator",data := .fields #[.ref l,.int 0 0] })
   (o := { cls := .type "enumerate",data := .fields #[.none,.bool false,.ref s.heap.objs.size,rawInt 0,.none,.none] }) rfl
  rw [hz] at this; exact this
 refine ⟨⟨_,he,rfl⟩,h _ he ⟨_,Heap.get?_push_of_some _ (Heap.get?_push_size _ rfl),rfl,rfl⟩ (by rw [Heap.size_push,hz]) fun b o x => Heap.get?_push_of_some _ (Heap.get?_push_of_some _ x)⟩
theorem nextOf_tuple_item {it t : Addr} {i : Nat} {items} {x : Value} {Q : Value → Shared → Prop} (hit : s.heap.IsTupleIter it t i) (ht : s.heap.IsTuple t items) (hx : items[i]? = some x)
  (hQ : ∀ h',h'.IsTupleIter it t (i + 1) → Heap.SameBut it s.heap h' → Q x { s with heap := h' }) : wpAny (model prog w) A (Builtin.SmallTypes.nextOf (.ref it)) Q E s := by
 obtain ⟨o,ho,hc,hd⟩ := id hit
 obtain ⟨ol,hol,_,nl,hdl⟩ := ht
 unfold Builtin.SmallTypes.nextOf
 refine wpAny_bind (wpAny_callSpecial?_slot (name := Str.ofString "__next__") hit.typeIs PySem.F.slot_tuple_iterator_next
  (wpAny_call_entry PySem.F.slot_tuple_iterator_next hit.typeIs PySem.F.entry_tuple_iterator_next ?_ (PySem.F.args_tuple_iterator_next_1 _)))
 show wpAny _ _ (field (.ref it) 0 >>= _) _ _ s
 refine wpAny_bind (wpAny_field ho hd (x := .ref t) rfl ?_)
 show wpAny _ _ (if (Value.ref t == Value.none) = true then _ else _) _ _ s
 rw [if_neg (show ¬ ((Value.ref t == Value.none) = true) from Bool.false_ne_true)]
 show wpAny _ _ (field (.ref it) 1 >>= _) _ _ s
 refine wpAny_bind (wpAny_field ho hd (x := .int i 0) rfl ?_)
 show wpAny _ _ (seqItems? (.ref t) >>= _) _ _ s
 refine wpAny_bind (wpAny_seqItems hol hdl ?_)
 simp only [Int.toNat_natCast,hx]
 refine wpAny_bind (wpAny_setField ho hd (by simp) (wpAny_pure ⟨x,rfl,wpAny_pure (hQ _ ?_ (Heap.SameBut.update ..))⟩))
 exact ⟨_,Heap.get?_update_self _ ho (Obj.isFreed_of_fields (Obj.data_mapFields hd _)),(Obj.cls_mapFields ..).trans hc,by
  rw [Obj.data_mapFields hd]; simp [rawInt]⟩
theorem nextOf_tuple_end {it t : Addr} {i : Nat} {items} {Q : Value → Shared → Prop} (hh : A.handled = none) (hit : s.heap.IsTupleIter it t i) (ht : s.heap.IsTuple t items) (hx : items[i]? = none)
  (hE : ∀ h' e,Heap.ExtBut it s.heap h' → (∃ o,h'.get? e = some o ∧ o.cls = .type "StopIteration") → E (.ref e) { s with heap := h' }) : wpAny (model prog w) A (Builtin.SmallTypes.nextOf (.ref it)) Q E s := by
 obtain ⟨o,ho,hc,hd⟩ := id hit
 obtain ⟨ol,hol,_,nl,hdl⟩ := ht
 unfold Builtin.SmallTypes.nextOf
 refine wpAny_bind (wpAny_callSpecial?_slot (name := Str.ofString "__next__") hit.typeIs PySem.F.slot_tuple_iterator_next
  (wpAny_call_entry PySem.F.slot_tuple_iterator_next hit.typeIs PySem.F.entry_tuple_iterator_next ?_ (PySem.F.args_tuple_iterator_next_1 _)))
 show wpAny _ _ (field (.ref it) 0 >>= _) _ _ s
 refine wpAny_bind (wpAny_field ho hd (x := .ref t) rfl ?_)
 show wpAny _ _ (if (Value.ref t == Value.none) = true then _ else _) _ _ s
 rw [if_neg (show ¬ ((Value.ref t == Value.none) = true) from Bool.false_ne_true)]
 show wpAny _ _ (field (.ref it) 1 >>= _) _ _ s
 refine wpAny_bind (wpAny_field ho hd (x := .int i 0) rfl ?_)
 show wpAny _ _ (seqItems? (.ref t) >>= _) _ _ s
 refine wpAny_bind (wpAny_seqItems hol hdl ?_)
 simp only [Int.toNat_natCast,hx]
 refine wpAny_bind (wpAny_rule (wpAny_bind (wpAny_setField ho hd (by simp) ?_)))
 show wpAny _ _ (newExc (.type "StopIteration") [] >>= _) _ _ _
 refine wpAny_bind ?_
 simp only [newExc,newTuple]
 refine wpAny_bind (wpAny_newObj_type ?_ (by size_fits))
 refine wpAny_bind (m := firstArgMember _ _) (wpAny_of_eq (a := Value.none) (by first | rfl | (simp only [firstArgMember]; rfl)) ?_)
 refine wpAny_newObj_type ?_ (by size_fits)
 simp only [raiseNew]
 refine wpAny_bind (wpAny_handled ?_)
 first | rw [show A.in1.handled = none from hh] | rw [hh]
 refine wpAny_bind (wpAny_pure (wpAny_throw ?_))
 exact hE _ _ (((Heap.SameBut.update ..).extBut.push _).push _) ⟨_,Heap.get?_push_size _ rfl,rfl⟩
end
theorem draws_tuple {prog : Program} {w : World} {A : Around} (hh : A.handled = none) (it l : Addr) (hne : l ≠ it) (items : Array Value) :
  Draws prog w A it [it,l] items.size (fun i v => items[i]? = some v) (fun i h => h.IsTupleIter it l i ∧ h.IsTuple l items) where
 live := fun _ _ st => let ⟨o,ho,_⟩ := st.1; ⟨o,ho⟩
 frame := fun _ _ _ st hk => ⟨st.1.at fun o e => hk it (by simp) o e,st.2.at fun o e => hk l (by simp) o e⟩
 item := fun i s Q E hi st hQ => by
  refine nextOf_tuple_item st.1 st.2 (x := items[i]) (by simp [hi]) fun h' hit' hs' => ?_
  exact hQ _ h' s.toks (by simp [hi]) ⟨hit',st.2.extBut hs'.extBut hne⟩ hs'
 done := fun s Q E st hE => nextOf_tuple_end hh st.1 st.2 (by simp) hE
end
section
theorem no_tf {P : Prop} (h : false = true) : P := by cases h
theorem get_eq {h : Heap} {b : Addr} {o o' : Obj} (e : h.get? b = some o) (e' : h.get? b = some o') : o' = o := Option.some.inj (e'.symm.trans e)
theorem get_data {h : Heap} {b : Addr} {o o' : Obj} {d d' : Data} (e : h.get? b = some o) (e' : h.get? b = some o') (q : o.data = d) (q' : o'.data = d') : d = d' := by
 rw [← q,← q',get_eq e e']
theorem none_ne {h : Heap} {a b : Addr} {o : Obj} (e : h.get? a = none) (e' : h.get? b = some o) : a ≠ b := fun q => by rw [q,e'] at e; cases e
theorem get_ne {h : Heap} {a b : Addr} {o o' : Obj} {d d' : Data} (e : h.get? a = some o) (e' : h.get? b = some o') (q : o.data = d) (q' : o'.data = d') (n : d ≠ d') : a ≠ b := fun x => n (get_data e (x ▸ e') q q')
noncomputable def Like (lo b : Nat) (o o' : Obj) : Prop :=
 o' = o ∨ (lo ≤ b ∧ o.cls = .type "frame" ∧ o'.cls = o.cls ∧ o'.dict = o.dict ∧ o'.data = o.data)
theorem Like.refl (lo b : Nat) (o : Obj) : Like lo b o o := .inl rfl
theorem Like.trans {lo b : Nat} {o o' o'' : Obj} (x : Like lo b o o') (y : Like lo b o' o'') : Like lo b o o'' := by
 rcases x with rfl | ⟨h1,h2,h3,h4,h5⟩
 ·exact y
 ·rcases y with rfl | ⟨_,g2,g3,g4,g5⟩
  ·exact .inr ⟨h1,h2,h3,h4,h5⟩
  ·exact .inr ⟨h1,h2,g3.trans h3,g4.trans h4,g5.trans h5⟩
theorem Like.eq {lo b : Nat} {o o' : Obj} (x : Like lo b o o') (h : o.cls ≠ .type "frame") : o' = o := x.elim id fun y => absurd y.2.1 h
theorem Like.data {lo b : Nat} {o o' : Obj} (x : Like lo b o o') : o'.data = o.data := x.elim (fun e => by rw [e]) fun y => y.2.2.2.2
theorem Like.cls {lo b : Nat} {o o' : Obj} (x : Like lo b o o') : o'.cls = o.cls := x.elim (fun e => by rw [e]) fun y => y.2.2.1
noncomputable def GKeep (g g' : Array GenState) : Prop :=
 g.size ≤ g'.size ∧ (∀ k,k < g.size → g'[k]? = g[k]?) ∧ ((∀ x ∈ g,x.bare = true) → ∀ x ∈ g',x.bare = true)
theorem GKeep.refl (g : Array GenState) : GKeep g g := ⟨Nat.le_refl _,fun _ _ => rfl,id⟩
theorem GKeep.trans {g g' g'' : Array GenState} (x : GKeep g g') (y : GKeep g' g'') : GKeep g g'' :=
 ⟨Nat.le_trans x.1 y.1,fun k hk => (y.2.1 k (Nat.lt_of_lt_of_le hk x.1)).trans (x.2.1 k hk),fun h => y.2.2 (x.2.2 h)⟩
structure Kp (lo : Nat) (s s' : Shared) : Prop where
 heap : ∀ b o,s.heap.get? b = some o → ∃ o',s'.heap.get? b = some o' ∧ Like lo b o o'
 os : s'.os = s.os
 gens : GKeep s.gens s'.gens
theorem Kp.refl (lo : Nat) (s : Shared) : Kp lo s s := ⟨fun _ o e => ⟨o,e,Like.refl ..⟩,rfl,GKeep.refl _⟩
theorem Kp.trans {lo : Nat} {s s' s'' : Shared} (x : Kp lo s s') (y : Kp lo s' s'') : Kp lo s s'' :=
 ⟨fun b o e => by
  obtain ⟨o',e',l⟩ := x.heap b o e
  obtain ⟨o'',e'',l'⟩ := y.heap b o' e'
  exact ⟨o'',e'',l.trans l'⟩,y.os.trans x.os,x.gens.trans y.gens⟩
theorem Kp.of_keep {lo : Nat} {s : Shared} {h' : Heap} {tk : Nat} (hk : ∀ b o,s.heap.get? b = some o → h'.get? b = some o) :
  Kp lo s { s with heap := h',toks := tk } := ⟨fun b o e => ⟨o,hk b o e,Like.refl ..⟩,rfl,GKeep.refl _⟩
theorem Kp.tok {lo : Nat} {s : Shared} {tk : Nat} : Kp lo s { s with toks := tk } := .of_keep fun _ _ e => e
theorem Kp.push {lo : Nat} {s : Shared} {o : Obj} {tk : Nat} : Kp lo s { s with heap := s.heap.push o,toks := tk } :=
 .of_keep fun _ _ e => Heap.get?_push_of_some o e
theorem Kp.push' {lo : Nat} {s : Shared} {o : Obj} : Kp lo s { s with heap := s.heap.push o } := Kp.push (tk := s.toks)
theorem Kp.get {lo : Nat} {s s' : Shared} (x : Kp lo s s') {b : Addr} {o : Obj} (e : s.heap.get? b = some o) (hc : o.cls ≠ .type "frame") : s'.heap.get? b = some o := by
 obtain ⟨o',e',l⟩ := x.heap b o e
 rw [l.eq hc] at e'; exact e'
theorem Kp.low {lo : Nat} {s s' : Shared} (x : Kp lo s s') {b : Addr} {o : Obj} (e : s.heap.get? b = some o) (hb : b < lo) : s'.heap.get? b = some o := by
 obtain ⟨o',e',l⟩ := x.heap b o e
 rcases l with rfl | ⟨h,_⟩
 ·exact e'
 ·exact absurd hb (Nat.not_lt.mpr h)
theorem Kp.ns {lo : Nat} {s s' : Shared} (x : Kp lo s s') {a : Addr} {m : Str → Option Value} (hn : s.heap.Ns a m) : s'.heap.Ns a m := by
 obtain ⟨o,es,ep,ho,hd,r⟩ := hn
 obtain ⟨o',e',l⟩ := x.heap a o ho
 exact ⟨o',es,ep,e',l.data.trans hd,r⟩
theorem Kp.cell {lo : Nat} {s s' : Shared} (x : Kp lo s s') {c : Addr} {v : Option Value} (hc : s.heap.IsCell c v) : s'.heap.IsCell c v := by
 obtain ⟨o,ho,hd⟩ := hc
 obtain ⟨o',e',l⟩ := x.heap c o ho
 exact ⟨o',e',l.data.trans hd⟩
structure Solid (o : Obj) : Prop where
 nf : o.cls ≠ .type "frame"
 nc : ∀ v,o.data ≠ .cell v
 nd : ∀ vs,o.data ≠ .fields vs
theorem Solid.seq {o : Obj} {T : String} {vs : Array Value} {n : Nat} (hc : o.cls = .type T) (hd : o.data = .seq vs n) (h1 : T ≠ "frame" := by decide) : Solid o :=
 ⟨fun q => h1 (Value.type.inj (hc.symm.trans q)),fun _ q => Data.noConfusion (hd.symm.trans q),fun _ q => Data.noConfusion (hd.symm.trans q)⟩
theorem Solid.dict {o : Obj} {T : String} {vs : Array DictEntry} {n : Nat} (hc : o.cls = .type T) (hd : o.data = .dict vs n) (h1 : T ≠ "frame" := by decide) : Solid o :=
 ⟨fun q => h1 (Value.type.inj (hc.symm.trans q)),fun _ q => Data.noConfusion (hd.symm.trans q),fun _ q => Data.noConfusion (hd.symm.trans q)⟩
structure Stable (h : Heap) (lv : Addr → Prop) (h' : Heap) (lv' : Addr → Prop) : Prop where
 keep : ∀ b o,h.get? b = some o → ¬ lv b → Solid o → h'.get? b = some o
 tup : ∀ b o vs n,h.get? b = some o → o.cls = .type "tuple" → o.data = .seq vs n → h'.get? b = some o
 live : ∀ b o,h.get? b = some o → Solid o → lv' b → lv b
theorem Stable.trans' {h h' h'' : Heap} {lv : Addr → Prop} (x : Stable h lv h' lv) (y : Stable h' lv h'' lv) : Stable h lv h'' lv :=
 ⟨fun b o e n c => y.keep b o (x.keep b o e n c) n c,fun b o vs n e c d => y.tup b o vs n (x.tup b o vs n e c d) c d,fun _ _ _ _ l => l⟩
theorem ne_fr {n : String} (h : n ≠ "frame") : Value.type n ≠ .type "frame" := fun q => h (Value.type.inj q)
theorem ne_tf {c : Value} (h : c = .type "tuple") : c ≠ .type "frame" := by rw [h]; simp
theorem Kp.stable {lo : Nat} {s s' : Shared} (x : Kp lo s s') (lv : Addr → Prop) : Stable s.heap lv s'.heap lv :=
 ⟨fun _ _ e _ c => x.get e c.nf,fun _ _ _ _ e c _ => x.get e (ne_tf c),fun _ _ _ _ l => l⟩
noncomputable def Rd (h : Heap) (lv : Addr → Prop) (v : Value) (d : PyData) : Prop := ∃ as,Reads h v d as ∧ ∀ a ∈ as,¬ lv a
noncomputable def Rds (h : Heap) (lv : Addr → Prop) (vs : List Value) (ds : List PyData) : Prop := ∃ as,ReadsAll h vs ds as ∧ ∀ a ∈ as,¬ lv a
section
variable {h h' : Heap} {lv lv' : Addr → Prop}
noncomputable abbrev Stay (h' : Heap) (lv lv' : Addr → Prop) (as : List Addr) (R : Prop) : Prop := (∀ a ∈ as,¬ lv a) → R ∧ ∀ a ∈ as,¬ lv' a
theorem Stay.cons {as : List Addr} {a : Addr} {R R' : Prop} (n : ¬ lv a → ¬ lv' a) (f : ¬ lv a → R → R') (x : Stay h' lv lv' as R) : Stay h' lv lv' (a :: as) R' := fun m =>
 have n0 := m a List.mem_cons_self
 have y := x fun b hb => m b (List.mem_cons_of_mem _ hb)
 ⟨f n0 y.1,fun b hb => (List.mem_cons.mp hb).elim (fun q => q ▸ n n0) (y.2 b)⟩
theorem Stay.app {as bs : List Addr} {R R' R2 : Prop} (f : R → R' → R2) (x : Stay h' lv lv' as R) (y : Stay h' lv lv' bs R') : Stay h' lv lv' (as ++ bs) R2 := fun m =>
 have x := x fun b hb => m b (List.mem_append_left _ hb)
 have y := y fun b hb => m b (List.mem_append_right _ hb)
 ⟨f x.1 y.1,fun b hb => (List.mem_append.mp hb).elim (x.2 b) (y.2 b)⟩
theorem readsAll_stable (S : Stable h lv h' lv') {vs : List Value} {ds : List PyData} {as : List Addr} (r : ReadsAll h vs ds as) : Stay h' lv lv' as (ReadsAll h' vs ds as) :=
 ReadsAll.rec (h := h) (motive_1 := fun v d as _ => Stay h' lv lv' as (Reads h' v d as)) (motive_2 := fun vs ds as _ => Stay h' lv lv' as (ReadsAll h' vs ds as))
  (fun _ => ⟨.none,nofun⟩) (fun b _ => ⟨.bool b,nofun⟩) (fun i t _ => ⟨.int i t,nofun⟩) (fun x t _ => ⟨.str x t,nofun⟩)
  (fun h1 h2 h3 _ ih => .cons (fun n l => n (S.live _ _ h1 (.seq h2 h3) l)) (fun n r => .list (S.keep _ _ h1 n (.seq h2 h3)) h2 h3 r) ih)
  (fun h1 h2 h3 _ ih m => ⟨.tuple (S.tup _ _ _ _ h1 h2 h3) h2 h3 (ih m).1,(ih m).2⟩)
  (fun h1 h2 h3 _ _ i1 i2 m => (Stay.app (h' := h') (R := ¬ lv _ ∧ ReadsAll h' _ _ _) (fun x y => .dict (S.keep _ _ h1 x.1 (.dict h2 h3)) h2 h3 x.2 y) (.cons (fun n l => n (S.live _ _ h1 (.dict h2 h3) l)) (fun n r => ⟨n,r⟩) i1) i2) m)
  (fun _ => ⟨.nil,nofun⟩) (fun _ _ i1 i2 => .app .cons i1 i2) r
theorem reads_stable (S : Stable h lv h' lv') {v : Value} {d : PyData} {as : List Addr} (r : Reads h v d as) : Stay h' lv lv' as (Reads h' v d as) :=
 Reads.rec (h := h) (motive_1 := fun v d as _ => Stay h' lv lv' as (Reads h' v d as)) (motive_2 := fun vs ds as _ => Stay h' lv lv' as (ReadsAll h' vs ds as))
  (fun _ => ⟨.none,nofun⟩) (fun b _ => ⟨.bool b,nofun⟩) (fun i t _ => ⟨.int i t,nofun⟩) (fun x t _ => ⟨.str x t,nofun⟩)
  (fun h1 h2 h3 _ ih => .cons (fun n l => n (S.live _ _ h1 (.seq h2 h3) l)) (fun n r => .list (S.keep _ _ h1 n (.seq h2 h3)) h2 h3 r) ih)
  (fun h1 h2 h3 _ ih m => ⟨.tuple (S.tup _ _ _ _ h1 h2 h3) h2 h3 (ih m).1,(ih m).2⟩)
  (fun h1 h2 h3 _ _ i1 i2 m => (Stay.app (h' := h') (R := ¬ lv _ ∧ ReadsAll h' _ _ _) (fun x y => .dict (S.keep _ _ h1 x.1 (.dict h2 h3)) h2 h3 x.2 y) (.cons (fun n l => n (S.live _ _ h1 (.dict h2 h3) l)) (fun n r => ⟨n,r⟩) i1) i2) m)
  (fun _ => ⟨.nil,nofun⟩) (fun _ _ i1 i2 => .app .cons i1 i2) r
end
theorem Rd.mono {h h' : Heap} {lv lv' : Addr → Prop} (S : Stable h lv h' lv') {v : Value} {d : PyData} (r : Rd h lv v d) : Rd h' lv' v d :=
 let ⟨as,r,n⟩ := r; ⟨as,reads_stable S r n⟩
theorem Rds.mono {h h' : Heap} {lv lv' : Addr → Prop} (S : Stable h lv h' lv') {vs : List Value} {ds : List PyData} (r : Rds h lv vs ds) : Rds h' lv' vs ds :=
 let ⟨as,r,n⟩ := r; ⟨as,readsAll_stable S r n⟩
theorem Rd.kp {lo : Nat} {s s' : Shared} {lv : Addr → Prop} {v : Value} {d : PyData} (r : Rd s.heap lv v d) (k : Kp lo s s') : Rd s'.heap lv v d := r.mono (k.stable lv)
theorem Rds.kp {lo : Nat} {s s' : Shared} {lv : Addr → Prop} {vs : List Value} {ds : List PyData} (r : Rds s.heap lv vs ds) (k : Kp lo s s') : Rds s'.heap lv vs ds := r.mono (k.stable lv)
theorem rd_int {h : Heap} {lv : Addr → Prop} {i : Int} {t : Tok} : Rd h lv (.int i t) (.int i) := ⟨[],.int i t,nofun⟩
theorem rd_bool {h : Heap} {lv : Addr → Prop} {b : Bool} : Rd h lv (.bool b) (.bool b) := ⟨[],.bool b,nofun⟩
theorem rd_none {h : Heap} {lv : Addr → Prop} : Rd h lv .none .none := ⟨[],.none,nofun⟩
theorem Rd.int_inv {h : Heap} {lv : Addr → Prop} {v : Value} {i : Int} (r : Rd h lv v (.int i)) : ∃ t,v = .int i t := by
 obtain ⟨_,r,_⟩ := r; cases r; exact ⟨_,rfl⟩
theorem Rd.bool_inv {h : Heap} {lv : Addr → Prop} {v : Value} {b : Bool} (r : Rd h lv v (.bool b)) : v = .bool b := by
 obtain ⟨_,r,_⟩ := r; cases r; rfl
theorem Rd.none_inv {h : Heap} {lv : Addr → Prop} {v : Value} (r : Rd h lv v .none) : v = .none := by
 obtain ⟨_,r,_⟩ := r; cases r; rfl
theorem Rd.tuple_inv {h : Heap} {lv : Addr → Prop} {v : Value} {xs : List PyData} (r : Rd h lv v (.tuple xs)) : ∃ a vs,v = .ref a ∧ IsTup h a vs.toArray ∧ Rds h lv vs xs := by
 obtain ⟨as,r,n⟩ := r
 cases r with
 | tuple h1 h2 h3 h4 => rename_i a o vs n'; exact ⟨a,vs.toList,rfl,⟨o,h1,h2,n',by simpa using h3⟩,as,h4,n⟩
theorem Rd.list_inv {h : Heap} {lv : Addr → Prop} {v : Value} {xs : List PyData} (r : Rd h lv v (.list xs)) : ∃ a vs,v = .ref a ∧ h.IsList a vs.toArray ∧ Rds h lv vs xs ∧ ¬ lv a := by
 obtain ⟨as,r,n⟩ := r
 cases r with
 | list h1 h2 h3 h4 => rename_i a o vs n' as; exact ⟨a,vs.toList,rfl,⟨o,h1,h2,n',by simpa using h3⟩,⟨as,h4,fun x hx => n x (List.mem_cons_of_mem _ hx)⟩,n a List.mem_cons_self⟩
theorem Rd.tuple {h : Heap} {lv : Addr → Prop} {a : Addr} {vs : List Value} {xs : List PyData} (t : IsTup h a vs.toArray) (r : Rds h lv vs xs) : Rd h lv (.ref a) (.tuple xs) := by
 obtain ⟨o,h1,h2,n,h3⟩ := t
 obtain ⟨as,r,hn⟩ := r
 exact ⟨as,.tuple h1 h2 h3 (by simpa using r),hn⟩
theorem Rd.list {h : Heap} {lv : Addr → Prop} {a : Addr} {vs : List Value} {xs : List PyData} (t : h.IsList a vs.toArray) (r : Rds h lv vs xs) (hl : ¬ lv a) : Rd h lv (.ref a) (.list xs) := by
 obtain ⟨o,h1,h2,n,h3⟩ := t
 obtain ⟨as,r,hn⟩ := r
 refine ⟨a :: as,.list h1 h2 h3 (by simpa using r),fun x hx => ?_⟩
 rcases List.mem_cons.mp hx with rfl | hx
 ·exact hl
 ·exact hn x hx
theorem Rds.nil {h : Heap} {lv : Addr → Prop} : Rds h lv [] [] := ⟨[],.nil,nofun⟩
theorem Rds.cons {h : Heap} {lv : Addr → Prop} {v : Value} {vs : List Value} {d : PyData} {ds : List PyData} (r : Rd h lv v d) (rs : Rds h lv vs ds) : Rds h lv (v :: vs) (d :: ds) := by
 obtain ⟨as,r,n⟩ := r
 obtain ⟨bs,rs,m⟩ := rs
 exact ⟨as ++ bs,.cons r rs,fun a ha => (List.mem_append.mp ha).elim (n a) (m a)⟩
theorem Rds.cons_inv {h : Heap} {lv : Addr → Prop} {v : Value} {vs : List Value} {ds : List PyData} (r : Rds h lv (v :: vs) ds) : ∃ d ds',ds = d :: ds' ∧ Rd h lv v d ∧ Rds h lv vs ds' := by
 obtain ⟨as,r,n⟩ := r
 cases r with
 | cons r rs => exact ⟨_,_,rfl,⟨_,r,fun a ha => n a (List.mem_append_left _ ha)⟩,_,rs,fun a ha => n a (List.mem_append_right _ ha)⟩
theorem Rds.nil_inv {h : Heap} {lv : Addr → Prop} {ds : List PyData} (r : Rds h lv [] ds) : ds = [] := by
 obtain ⟨as,r,n⟩ := r; cases r; rfl
theorem Rds.length {h : Heap} {lv : Addr → Prop} : ∀ {vs : List Value} {ds : List PyData},Rds h lv vs ds → vs.length = ds.length
 | [],_,r => by rw [r.nil_inv]; rfl
 | v :: vs,_,r => by obtain ⟨d,ds',rfl,_,r'⟩ := r.cons_inv; simp [r'.length]
theorem Rds.append {h : Heap} {lv : Addr → Prop} : ∀ {vs ws : List Value} {ds es : List PyData},Rds h lv vs ds → Rds h lv ws es → Rds h lv (vs ++ ws) (ds ++ es)
 | [],_,_,_,r,r' => by rw [r.nil_inv]; exact r'
 | v :: vs,_,_,_,r,r' => by obtain ⟨d,ds',rfl,r1,r2⟩ := r.cons_inv; exact .cons r1 (r2.append r')
theorem Rds.get {h : Heap} {lv : Addr → Prop} : ∀ {vs : List Value} {ds : List PyData},Rds h lv vs ds → ∀ {i : Nat} {d : PyData},ds[i]? = some d → ∃ v,vs[i]? = some v ∧ Rd h lv v d
 | [],_,r,i,d,e => by rw [r.nil_inv] at e; simp at e
 | v :: vs,_,r,i,d,e => by
  obtain ⟨d',ds',rfl,r1,r2⟩ := r.cons_inv
  cases i with
  | zero => simp at e; subst e; exact ⟨v,rfl,r1⟩
  | succ i => simpa using r2.get (by simpa using e)
theorem Rds.get' {h : Heap} {lv : Addr → Prop} {vs : List Value} {ds : List PyData} (r : Rds h lv vs ds) {i : Nat} {v : Value} (e : vs[i]? = some v) : ∃ d,ds[i]? = some d ∧ Rd h lv v d := by
 have hl := r.length
 have hi : i < ds.length := by rw [← hl]; exact (List.getElem?_eq_some_iff.mp e).1
 obtain ⟨v',e',r'⟩ := r.get (List.getElem?_eq_getElem hi)
 rw [e] at e'; cases e'
 exact ⟨_,List.getElem?_eq_getElem hi,r'⟩
theorem Rds.of {h : Heap} {lv : Addr → Prop} : ∀ {vs : List Value} {ds : List PyData},vs.length = ds.length → (∀ (i : Nat) v d,vs[i]? = some v → ds[i]? = some d → Rd h lv v d) → Rds h lv vs ds
 | [],[],_,_ => .nil
 | v :: vs,d :: ds,hl,hh => .cons (hh 0 v d rfl rfl) (Rds.of (by simpa using hl) fun i v' d' e e' => hh (i + 1) v' d' (by simpa using e) (by simpa using e'))
 | [],_ :: _,hl,_ => by simp at hl
 | _ :: _,[],hl,_ => by simp at hl
end
section
structure Cx where
 prog : Program
 w : World
 h₀ : Heap
 K : Frag
 mg : Str → Option Value
 mb : Str → Option Value
 kin : K.In h₀
 g : h₀.Ns mainGlobals mg
 b : h₀.Ns builtinsNs mb
 bi : ∀ x : Str,x ≠ "__name__" → mb x = bootBuiltins x
 nl : h₀.NoLimit
noncomputable abbrev Cx.lo (C : Cx) : Nat := C.h₀.objs.size
noncomputable abbrev Cx.M (C : Cx) : Model := model C.prog C.w
noncomputable def Cx.On (C : Cx) (s : Shared) : Prop := ∀ b o,C.h₀.get? b = some o → s.heap.get? b = some o
theorem Cx.On.kp {C : Cx} {s s' : Shared} (x : C.On s) (k : Kp C.lo s s') : C.On s' := fun b o e => k.low (x b o e) (Heap.lt_size e)
structure EnvOk (env : Env) : Prop where
 kind : env.scope.kind = .function
 gl : env.globals = mainGlobals
 bl : env.builtins = builtinsNs
noncomputable def Frames (C : Cx) (h : Heap) (l : List Env) : Prop := h.FunFrames C.h₀ l ∧ ∀ env ∈ l,∀ L,env.frame = some L → C.lo ≤ L ∧ ∃ o es ep,h.get? L = some o ∧ o.cls = .type "frame" ∧ o.data = .dict es ep
structure Rm (C : Cx) (R : Nat) (A : Around) (s : Shared) : Prop where
 depth : A.depth + R < recursionLimit
 units : A.units + 10 * R + 200 < cLine
 fr : ∃ l,A.frames = some l ∧ Frames C s.heap l
theorem funFrames_kp {C : Cx} {s s' : Shared} {l : List Env} (k : Kp C.lo s s') (x : Frames C s.heap l) : Frames C s'.heap l :=
 ⟨x.1.of_keeps fun b o e _ => let ⟨o',e',l⟩ := k.heap b o e; ⟨o',e',l.data⟩,fun env he L hL => by
  refine byG fun G9 k9 => ?_
  obtain ⟨h1,o,es,ep,e,c,d⟩ := x.2 env he L hL
  obtain ⟨o',e',l⟩ := k.heap L o e
  refine k9 ?_
  clear k9 G9
  exact ⟨h1,o',es,ep,e',l.cls.trans c,l.data.trans d⟩⟩
theorem Rm.kp {C : Cx} {R : Nat} {A : Around} {s s' : Shared} (x : Rm C R A s) (k : Kp C.lo s s') : Rm C R A s' :=
 ⟨x.depth,x.units,let ⟨l,h1,h2⟩ := x.fr; ⟨l,h1,funFrames_kp k h2⟩⟩
noncomputable def Ev (C : Cx) (A : Around) (lv : Addr → Prop) (s : Shared) (t : Sem Value) (d : PyData) : Prop :=
 ∀ (Q : Value → Shared → Prop) (E : Value → Shared → Prop),(∀ val s',Kp C.lo s s' → Rd s'.heap lv val d → Q val s') → wpAny C.M A t Q E s
noncomputable def EvB (C : Cx) (A : Around) (s : Shared) (t : Sem Bool) (b : Bool) : Prop :=
 ∀ (Q : Bool → Shared → Prop) (E : Value → Shared → Prop),(∀ s',Kp C.lo s s' → Q b s') → wpAny C.M A t Q E s
noncomputable def okName (x : Str) : Bool := !(x == ("__debug__" : Str)) && !(x == ("__classdict__" : Str))
theorem name_global {C : Cx} {A : Around} {env : Env} {s : Shared} {x : Str} {pos : Pos} {val : Value} {Q : Value → Shared → Prop} {E : Value → Shared → Prop} (T : C.On s) (ok : EnvOk env)
  (hx : env.kindOf x = some .globalImplicit) (e : nsIn C.K mainGlobals x = some (some val)) (hd : (x == ("__debug__" : Str)) = false) (h : Q val s) : wpAny C.M A (eval (.Name x pos) env) Q E s :=
 Calls.Name_function_global ok.kind hx (Calls.loadGlobal_global (env := env) (by rw [ok.gl]; exact C.g.keeps T) (mg_of C.kin C.g e) h) hd
theorem name_builtin {C : Cx} {A : Around} {env : Env} {s : Shared} {x : Str} {pos : Pos} {val : Value} {Q : Value → Shared → Prop} {E : Value → Shared → Prop} (T : C.On s) (ok : EnvOk env)
  (hx : env.kindOf x = some .globalImplicit) (e : nsIn C.K mainGlobals x = some none) (hb : bootBuiltins x = some val) (hn : x ≠ "__name__") (hd : (x == ("__debug__" : Str)) = false) (h : Q val s) :
  wpAny C.M A (eval (.Name x pos) env) Q E s :=
 Calls.Name_function_global ok.kind hx (Calls.loadGlobal_builtin (env := env) (by rw [ok.gl]; exact C.g.keeps T) (mg_none_of C.kin C.g e) (by rw [ok.bl]; exact C.b.keeps T) ((C.bi x hn).trans hb) h) hd
noncomputable def intOf : PyData → Option Int
 | .int i => some i
 | _ => none
noncomputable def itemsOf : PyData → Option (List PyData)
 | .list xs => some xs
 | .tuple xs => some xs
 | _ => none
noncomputable def small (i : Int) : Bool := decide (i.natAbs < 2 ^ 63)
noncomputable def fits (n : Nat) : Bool := decide (n < 2 ^ 20)
noncomputable def truthD : PyData → Option Bool
 | .none => some false
 | .bool b => some b
 | .int i => some (i != 0)
 | .list xs => if fits xs.length then some (!xs.isEmpty) else none
 | .tuple xs => if fits xs.length then some (!xs.isEmpty) else none
 | _ => none
noncomputable def binI (op : Operator) (i j : Int) : Option PyData := match op with
 | .Add => some (.int (i + j))
 | .Sub => some (.int (i - j))
 | .Mult => if small i then some (.int (i * j)) else none
 | .FloorDiv => if j = 0 then none else if small j then some (.int (i.fdiv j)) else none
 | .Mod => if j = 0 then none else some (.int (i.fmod j))
 | .Pow => if small i && decide (0 ≤ j) && decide (j ≤ 100) then some (.int (i ^ j.toNat)) else none
 | _ => none
noncomputable def catD (op : Operator) (n : Nat) (d : PyData) : Option PyData := match op with
 | .Add => if fits n then some d else none
 | _ => none
noncomputable def binD (op : Operator) (a b : PyData) : Option PyData := match a with
 | .int i => match b with
  | .int j => binI op i j
  | _ => none
 | .tuple xs => match b with
  | .tuple ys => catD op (xs.length + ys.length) (.tuple (xs ++ ys))
  | _ => none
 | .list xs => match b with
  | .list ys => catD op (xs.length + ys.length) (.list (xs ++ ys))
  | _ => none
 | _ => none
noncomputable def shapedB (d : PyData) : Bool := d.canLay0 && decide (d.depth ≤ 64)
noncomputable def cmpI (a b : PyData) (f : Int → Int → Bool) : Option PyData := (intOf a).bind fun i => (intOf b).bind fun j => some (.bool (f i j))
noncomputable def cmpD (op : CmpOp) (a b : PyData) : Option PyData :=
 match op with
 | .Eq => if shapedB a && shapedB b then some (.bool (PyData.eqv a b)) else none
 | .NotEq => if shapedB a && shapedB b then some (.bool (!PyData.eqv a b)) else none
 | .Lt => cmpI a b fun i j => decide (i < j)
 | .LtE => cmpI a b fun i j => decide (i ≤ j)
 | .Gt => cmpI a b fun i j => decide (j < i)
 | .In => (itemsOf b).bind fun xs => if shapedB a && shapedB b then some (.bool (xs.any fun y => PyData.eqv y a)) else none
 | .NotIn => (itemsOf b).bind fun xs => if shapedB a && shapedB b then some (.bool (!xs.any fun y => PyData.eqv y a)) else none
 | _ => none
theorem some_if {α : Type} {c : Bool} {a b : α} (h : (if c = true then some a else none) = some b) : c = true ∧ a = b := by
 cases c with
 | true => exact ⟨rfl,Option.some.inj h⟩
 | false => cases h
theorem cmpI_inv {a b d : PyData} {f : Int → Int → Bool} (h : cmpI a b f = some d) : ∃ i j,a = .int i ∧ b = .int j ∧ d = .bool (f i j) := by
 cases a with
 | int i => cases b with
  | int j => exact ⟨i,j,rfl,rfl,(Option.some.inj h).symm⟩
  | _ => cases h
 | _ => cases h
noncomputable def sliceL (xs : List PyData) (lo hi : Option Int) : List PyData :=
 (xs.drop (lo.elim 0 (clipAt xs.length))).take (hi.elim xs.length (clipAt xs.length) - lo.elim 0 (clipAt xs.length))
noncomputable def sliceD (lo hi : Option Int) : PyData → Option PyData
 | .list xs => if fits xs.length then some (.list (sliceL xs lo hi)) else none
 | .tuple xs => if fits xs.length then some (.tuple (sliceL xs lo hi)) else none
 | _ => none
noncomputable def itemD (d : PyData) (i : Int) : Option PyData :=
 if 0 ≤ i ∧ i < 2 ^ 20 then (itemsOf d).bind fun xs => xs[i.toNat]? else none
noncomputable def lenD (d : PyData) : Option PyData := (itemsOf d).bind fun xs => if fits xs.length then some (.int xs.length) else none
end
section
noncomputable def Rt (h : Heap) (lv : Addr → Prop) (v : Value) (d : PyData) : Prop :=
 match d with
 | .list xs => ∃ a vs,v = .ref a ∧ h.IsList a vs.toArray ∧ Rds h lv vs xs
 | d => Rd h lv v d
theorem Rd.rt {h : Heap} {lv : Addr → Prop} {v : Value} {d : PyData} (r : Rd h lv v d) : Rt h lv v d := by
 cases d with
 | list _ => obtain ⟨a,vs,e,hl,hr,_⟩ := r.list_inv; exact ⟨a,vs,e,hl,hr⟩
 | _ => exact r
theorem Rt.reads {h : Heap} {lv : Addr → Prop} {v : Value} {d : PyData} (r : Rt h lv v d) : ∃ as,Reads h v d as := by
 cases d with
 | list _ => obtain ⟨a,vs,e,⟨o,h1,h2,n,h3⟩,⟨as,r,_⟩⟩ := r; exact ⟨a :: as,e ▸ .list h1 h2 h3 (by simpa using r)⟩
 | _ => exact Exists.imp (fun _ h => h.1) r
theorem Rt.kp {lo : Nat} {s s' : Shared} {lv : Addr → Prop} {v : Value} (k : Kp lo s s') {d : PyData} (r : Rt s.heap lv v d) : Rt s'.heap lv v d := by
 cases d with
 | list _ => obtain ⟨a,vs,e,⟨o,h1,h2,n,h3⟩,r⟩ := r; exact ⟨a,vs,e,⟨o,k.get h1 (by rw [h2]; exact ne_fr (by decide)),h2,n,h3⟩,r.kp k⟩
 | _ => exact Rd.kp r k
section
variable {C : Cx} {A : Around} {lv : Addr → Prop} {s : Shared}
theorem not_lv_size {lv : Addr → Prop} {s : Shared} (lt : ∀ b,lv b → ∃ o,s.heap.get? b = some o) : ¬ lv s.heap.objs.size := fun l => let ⟨_,e⟩ := lt _ l; Nat.lt_irrefl _ (Heap.lt_size e)
theorem IsTup.of_push {h : Heap} {vs : List Value} : IsTup (h.push { cls := .type "tuple",data := .seq vs.toArray }) h.objs.size vs.toArray := ⟨_,Heap.get?_push_size _ rfl,rfl,0,rfl⟩
theorem IsList.of_push {h : Heap} {vs : List Value} : (h.push { cls := .type "list",data := .seq vs.toArray }).IsList h.objs.size vs.toArray := ⟨_,Heap.get?_push_size _ rfl,rfl,0,rfl⟩
theorem fits_lt {n : Nat} (h : fits n = true) : n < 2 ^ 20 := by simpa [fits] using h
theorem sizeLine_ge {n : Nat} (h : n < 2 ^ 20) : n ≤ sizeLine := by rw [sizeLine_eq]; omega
theorem small_lt {i : Int} (h : small i = true) : i.natAbs < 2 ^ 63 := by simpa [small] using h
theorem log2_small {i : Int} (h : small i = true) : i.natAbs.log2 < 63 := by
 have := small_lt h
 by_cases h0 : i.natAbs = 0
 ·rw [h0]; decide
 ·exact (Nat.log2_lt h0).mpr this
theorem ev_newTuple {vs : List Value} {ds : List PyData} (r : Rds s.heap lv vs ds) (hf : fits ds.length = true) : Ev C A lv s (newTuple vs) (.tuple ds) := by
 intro Q E h
 have hl := r.length
 refine wpAny_newObj_type (h _ _ Kp.push' ?_) (by show vs.toArray.size ≤ sizeLine; rw [List.size_toArray,hl]; exact sizeLine_ge (fits_lt hf))
 exact Rd.tuple IsTup.of_push (r.kp (lo := C.lo) Kp.push')
theorem ev_add_tuple {va vb : Value} {xs ys : List PyData} (ra : Rd s.heap lv va (.tuple xs)) (rb : Rd s.heap lv vb (.tuple ys)) (hf : fits (xs.length + ys.length) = true) :
  Ev C A lv s (binaryOp .Add va vb) (.tuple (xs ++ ys)) := by
 intro Q E h
 refine byG fun G9 k9 => ?_
 obtain ⟨a,vs,rfl,ta,r1⟩ := ra.tuple_inv
 obtain ⟨b,ws,rfl,tb,r2⟩ := rb.tuple_inv
 have l1 := r1.length
 have l2 := r2.length
 have hz := sizeLine_ge (fits_lt hf)
 obtain ⟨⟨cls,dd,data,sl⟩,ho,hc,n,hd⟩ := id ta
 obtain ⟨⟨cls2,dd2,data2,sl2⟩,ho2,hc2,n2,hd2⟩ := id tb
 refine k9 ?_
 clear k9 G9
 simp only at hc hd hc2 hd2
 subst hc hd hc2 hd2
 by_cases e1 : vs.toArray.isEmpty = true
 ·refine concat_meets ⟨_,ho,rfl⟩ ⟨_,ho2,rfl⟩ noFill_tuple_add seq_tuple_add PySem.F.slot_tuple_add PySem.F.entry_tuple_add (PySem.F.args_tuple_add_2 _ _) (tuple_addW0 a b vs.toArray ws.toArray n n2 dd dd2 sl sl2 e1) ⟨ho,ho2,?_⟩
  have : vs = [] := by simpa using e1
  subst this
  have := r1.nil_inv; subst this
  exact h _ _ (.refl ..) rb
 ·by_cases e2 : ws.toArray.isEmpty = true
  ·refine concat_meets ⟨_,ho,rfl⟩ ⟨_,ho2,rfl⟩ noFill_tuple_add seq_tuple_add PySem.F.slot_tuple_add PySem.F.entry_tuple_add (PySem.F.args_tuple_add_2 _ _) (tuple_addW1 a b vs.toArray ws.toArray n n2 dd dd2 sl sl2 e1 e2) ⟨ho,ho2,?_⟩
   have : ws = [] := by simpa using e2
   subst this
   have := r2.nil_inv; subst this
   rw [List.append_nil] at *
   exact h _ _ (.refl ..) ra
  ·refine concat_meets ⟨_,ho,rfl⟩ ⟨_,ho2,rfl⟩ noFill_tuple_add seq_tuple_add PySem.F.slot_tuple_add PySem.F.entry_tuple_add (PySem.F.args_tuple_add_2 _ _) (tuple_addW2 a b vs.toArray ws.toArray n n2 dd dd2 sl sl2 e1 e2 (by simp; omega)) ⟨ho,ho2,?_⟩
   have e : vs.toArray ++ ws.toArray = (vs ++ ws).toArray := by simp
   rw [e]
   refine h _ _ Kp.push (Rd.tuple IsTup.of_push ?_)
   exact (r1.append r2).kp (lo := C.lo) (Kp.push (tk := s.toks))
theorem ev_add_list {va vb : Value} {xs ys : List PyData} (lt : ∀ b,lv b → ∃ o,s.heap.get? b = some o) (ra : Rt s.heap lv va (.list xs)) (rb : Rt s.heap lv vb (.list ys)) (hf : fits (xs.length + ys.length) = true) :
  Ev C A lv s (binaryOp .Add va vb) (.list (xs ++ ys)) := by
 intro Q E h
 refine byG fun G9 k9 => ?_
 obtain ⟨a,vs,rfl,ta,r1⟩ := ra
 obtain ⟨b,ws,rfl,tb,r2⟩ := rb
 have l1 := r1.length
 have l2 := r2.length
 have hz := sizeLine_ge (fits_lt hf)
 obtain ⟨⟨cls,dd,data,sl⟩,ho,hc,n,hd⟩ := id ta
 obtain ⟨⟨cls2,dd2,data2,sl2⟩,ho2,hc2,n2,hd2⟩ := id tb
 refine k9 ?_
 clear k9 G9
 simp only at hc hd hc2 hd2
 subst hc hd hc2 hd2
 refine concat_meets ⟨_,ho,rfl⟩ ⟨_,ho2,rfl⟩ noFill_list_add seq_list_add PySem.F.slot_list_add PySem.F.entry_list_add (PySem.F.args_list_add_2 _ _) (list_addW a b vs.toArray ws.toArray n n2 dd dd2 sl sl2 (by simp; omega)) ⟨ho,ho2,?_⟩
 have e : vs.toArray ++ ws.toArray = (vs ++ ws).toArray := by simp
 rw [e]
 refine h _ _ Kp.push (Rd.list IsList.of_push ?_ (not_lv_size lt))
 exact (r1.append r2).kp (lo := C.lo) (Kp.push (tk := s.toks))
theorem ev_binI {op : Operator} {i j : Int} {t u : Tok} {d : PyData} (e : binI op i j = some d) : Ev C A lv s (binaryOp op (.int i t) (.int j u)) d := fun Q E h => by
 cases op with
 | Add => cases e; exact PyProof.Rows.add_int (h _ _ .tok rd_int)
 | Sub => cases e; exact PyProof.Rows.sub_int (h _ _ .tok rd_int)
 | Mult =>
  obtain ⟨hs,rfl⟩ := some_if e
  exact PyProof.Rows.mul_int (h _ _ .tok rd_int) (IntMulOk.of_left (by
   have := small_lt hs
   have h2 := log2_small hs
   unfold Builtin.Int.intBits
   split <;> omega))
 | FloorDiv =>
  by_cases hz : j = 0
  ·rw [show binI .FloorDiv i j = none from if_pos hz] at e; cases e
  ·obtain ⟨hs,rfl⟩ := some_if ((if_neg hz).symm.trans e)
   exact PyProof.Rows.floordiv_int hz (h _ _ .tok rd_int) (.inl (PyProof.noPylong_of_log2 (by have h2 := log2_small hs; omega)))
 | Mod =>
  by_cases hz : j = 0
  ·rw [show binI .Mod i j = none from if_pos hz] at e; cases e
  ·cases (if_neg hz).symm.trans e
   exact PyProof.Rows.mod_int hz (h _ _ .tok rd_int)
 | Pow =>
  obtain ⟨hs,rfl⟩ := some_if e
  simp only [Bool.and_eq_true,decide_eq_true_eq] at hs
  have := small_lt hs.1.1
  exact PyProof.Rows.pow_int_small hs.1.2 (by omega) (by omega) (h _ _ .tok rd_int)
 | _ => cases e
theorem catD_inv {op : Operator} {n : Nat} {d d' : PyData} (e : catD op n d = some d') : op = .Add ∧ fits n = true ∧ d = d' := by
 cases op with
 | Add => exact ⟨rfl,some_if e⟩
 | _ => cases e
theorem ev_bin {op : Operator} {va vb : Value} {a b d : PyData} (lt : ∀ b,lv b → ∃ o,s.heap.get? b = some o) (ra : Rt s.heap lv va a) (rb : Rt s.heap lv vb b) (e : binD op a b = some d) :
  Ev C A lv s (binaryOp op va vb) d := by
 cases a with
 | int i => cases b with
  | int j =>
   obtain ⟨t,rfl⟩ := Rd.int_inv ra
   obtain ⟨u,rfl⟩ := Rd.int_inv rb
   exact ev_binI e
  | _ => cases e
 | tuple xs => cases b with
  | tuple ys =>
   obtain ⟨rfl,hf,rfl⟩ := catD_inv e
   exact ev_add_tuple ra rb hf
  | _ => cases e
 | list xs => cases b with
  | list ys =>
   obtain ⟨rfl,hf,rfl⟩ := catD_inv e
   exact ev_add_list lt ra rb hf
  | _ => cases e
 | _ => cases e
end
end
section
section
variable {C : Cx} {A : Around} {lv : Addr → Prop} {s : Shared}
theorem shaped_lay {d : PyData} (h : shapedB d = true) : d.canLay0 = true := by unfold shapedB at h; simp at h; exact h.1
theorem shaped_depth {d : PyData} (h : shapedB d = true) : d.depth ≤ 64 := by unfold shapedB at h; simp at h; exact h.2
theorem items_inv {d : PyData} {xs : List PyData} (h : itemsOf d = some xs) : d = .list xs ∨ d = .tuple xs := by
 cases d with
 | list _ => exact .inl (congrArg PyData.list (Option.some.inj h))
 | tuple _ => exact .inr (congrArg PyData.tuple (Option.some.inj h))
 | _ => cases h
theorem ev_cmp {op : CmpOp} {va vb : Value} {a b d : PyData} (hu : A.units + 100 < cLine) (ra : Rt s.heap lv va a) (rb : Rt s.heap lv vb b) (e : cmpD op a b = some d) :
  Ev C A lv s (compareOp op va vb) d := fun Q E h => by
 have both : (shapedB a && shapedB b) = true → shapedB a = true ∧ shapedB b = true := fun h => Bool.and_eq_true_iff.mp h
 obtain ⟨as,r1⟩ := ra.reads
 obtain ⟨bs,r2⟩ := rb.reads
 cases op with
 | Eq =>
  obtain ⟨hs,rfl⟩ := some_if e
  exact SeqAt.compareEq_reads r1 r2 (shaped_lay (both hs).1) (shaped_lay (both hs).2) (by have := shaped_depth (both hs).1; omega) (h _ _ (.refl ..) rd_bool)
 | NotEq =>
  obtain ⟨hs,rfl⟩ := some_if e
  exact SeqAt.compareNe_reads r1 r2 (shaped_lay (both hs).1) (shaped_lay (both hs).2) (by have := shaped_depth (both hs).1; omega) (h _ _ (.refl ..) rd_bool)
 | Lt =>
  obtain ⟨i,j,rfl,rfl,rfl⟩ := cmpI_inv e
  obtain ⟨t,rfl⟩ := Rd.int_inv ra; obtain ⟨u,rfl⟩ := Rd.int_inv rb
  exact PyProof.Rows.lt_int (h _ _ (.refl ..) rd_bool)
 | LtE =>
  obtain ⟨i,j,rfl,rfl,rfl⟩ := cmpI_inv e
  obtain ⟨t,rfl⟩ := Rd.int_inv ra; obtain ⟨u,rfl⟩ := Rd.int_inv rb
  exact PyProof.Rows.le_int (h _ _ (.refl ..) rd_bool)
 | Gt =>
  obtain ⟨i,j,rfl,rfl,rfl⟩ := cmpI_inv e
  obtain ⟨t,rfl⟩ := Rd.int_inv ra; obtain ⟨u,rfl⟩ := Rd.int_inv rb
  exact PyProof.Rows.gt_int (h _ _ (.refl ..) rd_bool)
 | In =>
  obtain ⟨xs,hi,e⟩ := Option.bind_eq_some_iff.mp e
  obtain ⟨hs,rfl⟩ := some_if e
  have hl := shaped_lay (both hs).2
  have d1 := shaped_depth (both hs).1
  rcases items_inv hi with rfl | rfl
  ·rw [PyData.canLay0] at hl
   exact SeqAt.in_list_reads r2 r1 hl (shaped_lay (both hs).1) (by omega) (h _ _ (.refl ..) rd_bool)
  ·rw [PyData.canLay0] at hl
   exact SeqAt.in_tuple_reads r2 r1 hl (shaped_lay (both hs).1) (by omega) (h _ _ (.refl ..) rd_bool)
 | NotIn =>
  obtain ⟨xs,hi,e⟩ := Option.bind_eq_some_iff.mp e
  obtain ⟨hs,rfl⟩ := some_if e
  have hl := shaped_lay (both hs).2
  have d1 := shaped_depth (both hs).1
  rcases items_inv hi with rfl | rfl
  ·rw [PyData.canLay0] at hl
   exact SeqAt.notIn_list_reads r2 r1 hl (shaped_lay (both hs).1) (by omega) (h _ _ (.refl ..) rd_bool)
  ·rw [PyData.canLay0] at hl
   exact SeqAt.notIn_tuple_reads r2 r1 hl (shaped_lay (both hs).1) (by omega) (h _ _ (.refl ..) rd_bool)
 | _ => cases e
theorem evb_truthy {v : Value} {d : PyData} {b : Bool} (r : Rt s.heap lv v d) (e : truthD d = some b) : EvB C A s (truthy v) b := by
 intro Q E h
 cases d with
 | none => cases e; rw [Rd.none_inv r]; exact truthy_none (h _ (.refl ..))
 | bool b' => cases e; rw [Rd.bool_inv r]; exact wpAny_truthy_bool (h _ (.refl ..))
 | int i => cases e; obtain ⟨t,rfl⟩ := Rd.int_inv r; exact PyProof.Rows.truthy_int (h _ (.refl ..))
 | str x => cases e
 | list xs =>
  have e : (if fits xs.length = true then some (!xs.isEmpty) else none) = some b := e
  obtain ⟨hf,rfl⟩ := some_if e
  ·obtain ⟨a,vs,rfl,hl,hr⟩ := r
   have l1 := hr.length
   have hz := fits_lt hf
   refine wpAny_truthy_list hl (by simp; omega) ?_
   have hb : vs.toArray.isEmpty = xs.isEmpty := by cases xs <;> cases vs <;> simp_all
   rw [hb]
   exact h _ .tok
 | tuple xs =>
  have e : (if fits xs.length = true then some (!xs.isEmpty) else none) = some b := e
  obtain ⟨hf,rfl⟩ := some_if e
  ·obtain ⟨a,vs,rfl,hl,hr⟩ := Rd.tuple_inv r
   have l1 := hr.length
   have hz := fits_lt hf
   refine truthy_tuple hl (by simp; omega) ?_
   have hb : vs.toArray.isEmpty = xs.isEmpty := by cases xs <;> cases vs <;> simp_all
   rw [hb]
   exact h _ .tok
 | dict kvs => cases e
theorem ev_len {v : Value} {d d' : PyData} (r : Rt s.heap lv v d) (e : lenD d = some d') : Ev C A lv s (call (.builtin "len") [v]) d' := by
  intro Q E h
  unfold lenD at e
  cases d <;> simp only [itemsOf,Option.bind_none,Option.bind_some,reduceCtorEq] at e
  all_goals
    split at e
    · rename_i hf
      obtain rfl := Option.some.inj e
      have hz := fits_lt hf
      first
        | (obtain ⟨a,vs,rfl,hl,hr⟩ := r
           have l1 := hr.length
           refine PyProof.Rows.len_list hl (by simp; omega) ?_
           rw [List.size_toArray,l1]
           exact h _ _ .tok rd_int)
        | (obtain ⟨a,vs,rfl,hl,hr⟩ := Rd.tuple_inv r
           have l1 := hr.length
           refine PyProof.Rows.len_tuple hl (by simp; omega) ?_
           rw [List.size_toArray,l1]
           exact h _ _ .tok rd_int)
    · cases e
theorem ev_item {value slice : Expr} {vo vi : Value} {d d' : PyData} {i : Int} (r : Rt s.heap lv vo d) (ri : Rd s.heap lv vi (.int i)) (e : itemD d i = some d')
  (hs : ∀ o i,subscripted slice false o i = operate [o,i] (getItem o i)) : Ev C A lv s (subscriptTail value slice vo vi) d' := by
 intro Q E h
 obtain ⟨t,rfl⟩ := ri.int_inv
 unfold itemD at e
 split at e
 ·rename_i hi
  cases d <;> simp only [itemsOf,Option.bind_none,Option.bind_some,reduceCtorEq] at e
  ·obtain ⟨a,vs,rfl,hl,hr⟩ := r
   obtain ⟨v,e',r'⟩ := hr.get e
   exact tail_any hl.typeIs slot_list_getitem.lookup (wpAny_getItem_list hl hi.1 (by omega) (by simpa using e') (h _ _ (.refl ..) r')) (hs _ _)
  ·obtain ⟨a,vs,rfl,hl,hr⟩ := Rd.tuple_inv r
   obtain ⟨v,e',r'⟩ := hr.get e
   have hlt := (List.getElem?_eq_some_iff.mp e').1
   refine item_tupleT hl (by omega) (by omega) (j := i.toNat) ?_ e' (h _ _ (.refl ..) r') (hs _ _)
   unfold seqIndex?
   have h1 : ¬ i < 0 := by omega
   have h2 : ¬ (i < 0 ∨ i ≥ (vs.length : Int)) := by omega
   simp [h1,h2]
   omega
 ·cases e
theorem slicePick_list (vs : List Value) (lo hi : Option Int) :
  slicePick vs.toArray lo hi none = ((vs.drop (lo.elim 0 (clipAt vs.length))).take (hi.elim vs.length (clipAt vs.length) - lo.elim 0 (clipAt vs.length))).toArray := by
 rw [slicePick_plain]; simp
theorem Rds.drop {h : Heap} : ∀ {vs : List Value} {ds : List PyData},Rds h lv vs ds → ∀ k,Rds h lv (vs.drop k) (ds.drop k)
 | [],_,r,k => by rw [r.nil_inv]; simpa using Rds.nil
 | v :: vs,_,r,0 => r
 | v :: vs,_,r,k + 1 => by obtain ⟨d,ds',rfl,_,r2⟩ := r.cons_inv; exact r2.drop k
theorem Rds.take {h : Heap} : ∀ {vs : List Value} {ds : List PyData},Rds h lv vs ds → ∀ k,Rds h lv (vs.take k) (ds.take k)
 | [],_,r,k => by rw [r.nil_inv]; simpa using Rds.nil
 | v :: vs,_,r,0 => by obtain ⟨d,ds',rfl,_,r2⟩ := r.cons_inv; exact .nil
 | v :: vs,_,r,k + 1 => by obtain ⟨d,ds',rfl,r1,r2⟩ := r.cons_inv; exact .cons r1 (r2.take k)
theorem Rds.reverse {h : Heap} : ∀ {vs : List Value} {ds : List PyData},Rds h lv vs ds → Rds h lv vs.reverse ds.reverse
 | [],_,r => by rw [r.nil_inv]; exact .nil
 | v :: vs,_,r => by obtain ⟨d,ds',rfl,r1,r2⟩ := r.cons_inv; rw [List.reverse_cons,List.reverse_cons]; exact r2.reverse.append (.cons r1 .nil)
noncomputable def Pt (h : Heap) (lv : Addr → Prop) (v : Value) (k : Option Int) : Prop := match k with
 | none => v = .none
 | some i => ∃ t,v = .int i t
theorem Pt.part {h : Heap} {v : Value} : ∀ {k : Option Int},Pt h lv v k → IsPart v k
 | none,e => by cases e; exact .none
 | some i,⟨t,e⟩ => by cases e; exact .int i t
theorem ev_slice_list {vo sl vl vu : Value} {xs : List PyData} {lo hi : Option Int} {a : Addr} (lt : ∀ b,lv b → ∃ o,s.heap.get? b = some o) (r : Rt s.heap lv vo (.list xs)) (hf : fits xs.length = true) (e : sl = .ref a) (hs : s.heap.IsSliceOf a vl vu .none)
  (pl : Pt s.heap lv vl lo) (pu : Pt s.heap lv vu hi) : Ev C A lv s (getItem vo sl) (.list (sliceL xs lo hi)) := by
 intro Q E h
 subst e
 obtain ⟨b,vs,rfl,hl,hr⟩ := r
 have l1 := hr.length
 have hz := sizeLine_ge (fits_lt hf)
 refine wpAny_getItem_list_slice hl hs pl.part pu.part .none (by simp) ?_ (by simp; omega)
 rw [slicePick_list]
 refine h _ _ Kp.push' (Rd.list IsList.of_push ?_ (not_lv_size lt))
 have := ((hr.drop (lo.elim 0 (clipAt vs.length))).take (hi.elim vs.length (clipAt vs.length) - lo.elim 0 (clipAt vs.length))).kp (lo := C.lo) (Kp.push' (s := s) (o := { cls := .type "list",data := .seq ((vs.drop (lo.elim 0 (clipAt vs.length))).take (hi.elim vs.length (clipAt vs.length) - lo.elim 0 (clipAt vs.length))).toArray }))
 rw [l1] at this ⊢
 exact this
theorem ev_rev_list {vo sl vk : Value} {xs : List PyData} {a : Addr} (lt : ∀ b,lv b → ∃ o,s.heap.get? b = some o) (r : Rt s.heap lv vo (.list xs)) (hf : fits xs.length = true) (e : sl = .ref a) (hs : s.heap.IsSliceOf a .none .none vk)
  (pk : Pt s.heap lv vk (some (-1))) : Ev C A lv s (getItem vo sl) (.list xs.reverse) := by
 intro Q E h
 subst e
 obtain ⟨b,vs,rfl,hl,hr⟩ := r
 have l1 := hr.length
 have hz := sizeLine_ge (fits_lt hf)
 refine wpAny_getItem_list_slice hl hs .none .none pk.part (by simp) ?_ (by simp; omega)
 rw [krv_pick]
 refine h _ _ Kp.push' (Rd.list IsList.of_push ?_ (not_lv_size lt))
 exact hr.reverse.kp (lo := C.lo) Kp.push'
theorem adjust_clip (lo hi : Option Int) (n : Nat) : Builtin.Slice.sliceAdjust lo hi 1 (n : Int) = (((lo.elim 0 (clipAt n) : Nat) : Int),((hi.elim n (clipAt n) : Nat) : Int)) := by
 unfold Builtin.Slice.sliceAdjust
 have h1 : ¬ ((1 : Int) < 0) := by omega
 simp only [h1,if_false]
 congr 1
 ·cases lo with
  | none => rfl
  | some i => simp only [Option.elim]; rw [clipAt_cast]; split <;> omega
 ·cases hi with
  | none => rfl
  | some i => simp only [Option.elim]; rw [clipAt_cast]; split <;> omega
theorem places_clip (a b : Nat) : Builtin.Slice.slicePlaces (a : Int) (b : Int) 1 = b - a := by
 unfold Builtin.Slice.slicePlaces
 have h1 : (1 : Int) > 0 := by omega
 simp only [h1,if_true,Int.ediv_one]
 split <;> omega
theorem slicePart_pt {h : Heap} {v : Value} {Q : Option Int → Shared → Prop} {E : Value → Shared → Prop} : ∀ {k : Option Int},Pt h lv v k → Q k s → wpAny C.M A (Builtin.Slice.slicePartIndex v) Q E s
 | none,e,q => by cases e; exact slicePart_none q
 | some i,⟨t,e⟩,q => by cases e; exact slicePart_int q
theorem sliceApplied_pt {a : Addr} {vl vu : Value} {lo hi : Option Int} {n : Nat} {Q : Int × Int × Nat → Shared → Prop} {E : Value → Shared → Prop} (hs : s.heap.IsSliceOf a vl vu .none) (pl : Pt s.heap lv vl lo) (pu : Pt s.heap lv vu hi)
  (h : Q (((lo.elim 0 (clipAt n) : Nat) : Int),1,hi.elim n (clipAt n) - lo.elim 0 (clipAt n)) s) : wpAny C.M A (Builtin.Slice.sliceApplied (.ref a) (pure (n : Int))) Q E s := by
 obtain ⟨os,hos,hcs,hds⟩ := id hs
 unfold Builtin.Slice.sliceApplied Builtin.Slice.sliceFields
 refine wpAny_bind (wpAny_bind (wpAny_field hos hds (x := vl) rfl (wpAny_bind (wpAny_field hos hds (x := vu) rfl (wpAny_bind (wpAny_field hos hds (x := .none) rfl (wpAny_pure ?_)))))))
 refine wpAny_bind (slicePart_none ?_)
 show wpAny _ _ (if ((1 : Int) == 0) = true then _ else _) _ _ s
 rw [if_neg (by decide)]
 refine wpAny_bind (slicePart_pt pl (wpAny_bind (slicePart_pt pu (wpAny_bind (wpAny_pure ?_)))))
 show wpAny _ _ (match Builtin.Slice.sliceAdjust lo hi 1 (n : Int) with | (lo,hi) => pure (lo,(1 : Int),Builtin.Slice.slicePlaces lo hi 1)) _ _ s
 rw [adjust_clip lo hi n]
 show wpAny _ _ (pure (((lo.elim 0 (clipAt n) : Nat) : Int),(1 : Int),Builtin.Slice.slicePlaces ((lo.elim 0 (clipAt n) : Nat) : Int) ((hi.elim n (clipAt n) : Nat) : Int) 1)) _ _ s
 rw [places_clip]
 exact wpAny_pure h
theorem pick_clip (vs : List Value) (a k : Nat) : ((List.range k).filterMap fun (j : Nat) => vs.toArray[((a : Int) + (j : Int) * 1).toNat]?).toArray = ((vs.drop a).take k).toArray := by
 have e : (fun (j : Nat) => vs.toArray[((a : Int) + (j : Int) * 1).toNat]?) = fun j => vs.toArray[a + j]? := by
  funext j
  have : ((a : Int) + (j : Int) * 1).toNat = a + j := by omega
  rw [this]
 rw [e]
 have := pick_run vs.toArray a k
 rw [List.filterMap_map] at this
 have e2 : ((fun x => vs.toArray[x]?) ∘ fun x => a + x) = fun k => vs.toArray[a + k]? := rfl
 rw [e2] at this
 rw [this]
theorem ev_slice_tuple {vo sl vl vu : Value} {xs : List PyData} {lo hi : Option Int} {a : Addr} (r : Rd s.heap lv vo (.tuple xs)) (hf : fits xs.length = true) (e : sl = .ref a) (hs : s.heap.IsSliceOf a vl vu .none)
  (pl : Pt s.heap lv vl lo) (pu : Pt s.heap lv vu hi) : Ev C A lv s (getItem vo sl) (.tuple (sliceL xs lo hi)) := by
 intro Q E h
 subst e
 obtain ⟨t,vs,rfl,ht,hr⟩ := r.tuple_inv
 have l1 := hr.length
 have hz := sizeLine_ge (fits_lt hf)
 obtain ⟨os,hos,hcs,hds⟩ := id hs
 have hTs : s.TypeIs (.ref a) "slice" := ⟨os,hos,hcs⟩
 unfold getItem
 try with_reducible refine wpAny_holding ?_
 first | refine wpAny_bind (wpAny_pure ?_) | skip
 refine wpAny_bind (wpAny_sequenceKey ht.typeIs (by decide) ?_)
 refine wpAny_bind (wpAny_callSpecial?_slot (name := Str.ofString "__getitem__") ht.typeIs slot_tuple_getitem
  (wpAny_call_entry slot_tuple_getitem ht.typeIs entry_tuple_getitem ?_ (args_tuple_getitem _ _)))
 show wpAny _ _ (Builtin.Tuple.tupleItemsOf (.ref t) >>= _) _ _ s
 refine wpAny_bind (tupleItemsOf_ ht ?_)
 refine wpAny_bind (wpAny_typeOf hTs ?_)
 rw [if_pos (by decide)]
 refine wpAny_bind (sliceApplied_pt (n := vs.toArray.size) hs pl pu ?_)
 dsimp only
 have hsz : vs.toArray.size = xs.length := by simp [l1]
 by_cases hw : ((((lo.elim 0 (clipAt vs.toArray.size) : Nat) : Int) == 0 && (1 : Int) == 1 && (hi.elim vs.toArray.size (clipAt vs.toArray.size) - lo.elim 0 (clipAt vs.toArray.size)) == vs.toArray.size) = true)
 ·rw [if_pos hw]
  simp only [Bool.and_eq_true,beq_iff_eq] at hw
  refine wpAny_bind (m := Builtin.Tuple.tupleIsExact _) ?_
  unfold Builtin.Tuple.tupleIsExact
  refine wpAny_bind (wpAny_typeOf ht.typeIs (wpAny_pure ?_))
  rw [if_pos (by decide)]
  have h0 : lo.elim 0 (clipAt vs.toArray.size) = 0 := by omega
  have hk : hi.elim vs.toArray.size (clipAt vs.toArray.size) - lo.elim 0 (clipAt vs.toArray.size) = vs.toArray.size := hw.2
  have es : sliceL xs lo hi = xs := by
   unfold sliceL
   rw [← hsz,hk,h0,hsz]; simp
  rw [es] at h
  first
   | exact wpAny_bind (wpAny_rule (wpAny_pure ⟨_,rfl,wpAny_pure (h _ _ (.refl ..) r)⟩))
   | exact wpAny_bind (wpAny_rule (wpAny_bind (wpAny_pure (wpAny_pure ⟨_,rfl,wpAny_pure (h _ _ (.refl ..) r)⟩))))
 ·rw [if_neg hw,pick_clip]
  have hdrop : sizeOk (.seq ((vs.drop (lo.elim 0 (clipAt vs.toArray.size))).take (hi.elim vs.toArray.size (clipAt vs.toArray.size) - lo.elim 0 (clipAt vs.toArray.size))).toArray) := by
   show (List.toArray _).size ≤ sizeLine
   rw [List.size_toArray,List.length_take,List.length_drop]
   omega
  have fin : Rd (s.heap.push { cls := .type "tuple",data := .seq ((vs.drop (lo.elim 0 (clipAt vs.toArray.size))).take (hi.elim vs.toArray.size (clipAt vs.toArray.size) - lo.elim 0 (clipAt vs.toArray.size))).toArray }) lv (.ref s.heap.objs.size) (.tuple (sliceL xs lo hi)) := by
   refine Rd.tuple IsTup.of_push ?_
   have := ((hr.drop (lo.elim 0 (clipAt vs.toArray.size))).take (hi.elim vs.toArray.size (clipAt vs.toArray.size) - lo.elim 0 (clipAt vs.toArray.size))).kp (lo := C.lo) (Kp.push' (s := s) (o := { cls := .type "tuple",data := .seq ((vs.drop (lo.elim 0 (clipAt vs.toArray.size))).take (hi.elim vs.toArray.size (clipAt vs.toArray.size) - lo.elim 0 (clipAt vs.toArray.size))).toArray }))
   rw [hsz] at this ⊢
   exact this
  first
   | exact wpAny_bind (m := Builtin.Tuple.tupleExact _) (wpAny_newObj_type (wpAny_pure ⟨_,rfl,wpAny_pure (h _ _ Kp.push' fin)⟩) hdrop)
   | exact wpAny_bind (m := Builtin.Tuple.tupleExact _) (wpAny_newObj_type (wpAny_bind (wpAny_pure (wpAny_pure ⟨_,rfl,wpAny_pure (h _ _ Kp.push' fin)⟩))) hdrop)
   | exact wpAny_bind (wpAny_bind (m := Builtin.Tuple.tupleExact _) (wpAny_newObj_type (wpAny_pure (wpAny_pure ⟨_,rfl,wpAny_pure (h _ _ Kp.push' fin)⟩)) hdrop))
   | exact wpAny_bind (wpAny_bind (m := Builtin.Tuple.tupleExact _) (wpAny_newObj_type (wpAny_pure ⟨_,rfl,wpAny_pure (h _ _ Kp.push' fin)⟩) hdrop))
end
end
section
noncomputable def Frz (lv : Addr → Prop) (b : Addr) (o : Obj) : Prop := (o.cls = .type "tuple" ∧ ∃ vs n,o.data = .seq vs n) ∨ (Solid o ∧ ¬ lv b)
structure Itr (C : Cx) (A : Around) (lv : Addr → Prop) (I : Addr) (fp : List Addr) (P : Nat → Value → Prop) (St : Nat → Heap → Prop) (items : List PyData) (s : Shared) : Prop where
 W : Walks C.prog C.w A I fp [I] items.length P St
 st : St 0 s.heap
 nf : ∀ i h,St i h → ∀ b ∈ fp,∀ o,h.get? b = some o → o.cls ≠ .type "frame"
 own : ∀ i h,St i h → ∃ o n vs,h.get? I = some o ∧ o.cls = .type n ∧ o.data = .fields vs ∧ (["enumerate","zip","dict_itemiterator","dict_reverseitemiterator","odict_iterator","itertools.zip_longest","itertools.pairwise"].contains n) = false
 sep : ∀ b ∈ fp,b = I ∨ ∃ o,s.heap.get? b = some o ∧ Frz lv b o
 rd : ∀ i v,i < items.length → P i v → ∃ d,items[i]? = some d ∧ Rd s.heap lv v d
noncomputable def IterOk (C : Cx) (A : Around) (lv : Addr → Prop) (s : Shared) (xv : Value) (items : List PyData) : Prop :=
 ∀ (Q : Value → Shared → Prop) (E : Value → Shared → Prop),
  (∀ I fp P St s',Kp C.lo s s' → s.heap.get? I = none → I ∈ fp → (∀ b ∈ fp,b = I ∨ ∃ o,s.heap.get? b = some o) → Itr C A lv I fp P St items s' → Q (.ref I) s') → wpAny C.M A (pyIter xv) Q E s
noncomputable def Src (C : Cx) (A : Around) (lv : Addr → Prop) (s : Shared) (t : Sem Value) (items : List PyData) : Prop :=
 ∀ (Q : Value → Shared → Prop) (E : Value → Shared → Prop),(∀ xv s',Kp C.lo s s' → IterOk C A lv s' xv items → Q xv s') → wpAny C.M A t Q E s
theorem get_none_size (h : Heap) : h.get? h.objs.size = none := by
 cases e : h.get? h.objs.size with
 | none => rfl
 | some o => exact absurd (Heap.lt_size e) (Nat.lt_irrefl _)
theorem ne_size {h : Heap} {a : Addr} {o : Obj} (e : h.get? a = some o) : a ≠ h.objs.size := Nat.ne_of_lt (Heap.lt_size e)
section
variable {C : Cx} {A : Around} {lv : Addr → Prop} {s : Shared}
theorem iter_list {a : Addr} {vs : List Value} {xs : List PyData} (hh : A.handled = none) (hl : s.heap.IsList a vs.toArray) (r : Rds s.heap lv vs xs) (hsep : ¬ lv a) : IterOk C A lv s (.ref a) xs := by
 intro Q E h
 obtain ⟨o,ho,hc,n,hd⟩ := id hl
 refine wpAny_pyIter_list hl (h s.heap.objs.size [s.heap.objs.size,a] (fun i v => vs.toArray[i]? = some v) (fun i h => h.IsListIter s.heap.objs.size a i ∧ h.IsList a vs.toArray) _ Kp.push' (get_none_size _) (by simp) (fun b hb => ?_) ⟨?_,?_,?_,?_,?_,?_⟩)
 ·simp only [List.mem_cons,List.not_mem_nil,or_false] at hb
  rcases hb with rfl | rfl
  ·exact .inl rfl
  ·exact .inr ⟨o,ho⟩
 ·have W := Walks.list (prog := C.prog) (w := C.w) (A := A) hh s.heap.objs.size a (ne_size ho) vs.toArray
  have e : vs.toArray.size = xs.length := by simp [r.length]
  rw [e] at W
  exact W
 ·exact ⟨⟨_,Heap.get?_push_size _ rfl,rfl,rfl⟩,hl.push _⟩
 ·rintro i h ⟨⟨o1,e1,c1,d1⟩,⟨o2,e2,c2,n2,d2⟩⟩ b hb o' e'
  simp only [List.mem_cons,List.not_mem_nil,or_false] at hb
  rcases hb with rfl | rfl
  ·rw [e1] at e'; cases e'; rw [c1]; simp
  ·rw [e2] at e'; cases e'; rw [c2]; simp
 ·rintro i h ⟨⟨o1,e1,c1,d1⟩,_⟩
  exact ⟨o1,_,_,e1,c1,d1,by decide⟩
 ·intro b hb
  simp only [List.mem_cons,List.not_mem_nil,or_false] at hb
  rcases hb with rfl | rfl
  ·exact .inl rfl
  ·exact .inr ⟨o,Heap.get?_push_of_some _ ho,.inr ⟨.seq hc hd,hsep⟩⟩
 ·intro i v _ e
  have e' : vs[i]? = some v := by simpa using e
  obtain ⟨d,hd,hr⟩ := r.get' e'
  exact ⟨d,hd,hr.kp (lo := C.lo) Kp.push'⟩
theorem iter_tuple {a : Addr} {vs : List Value} {xs : List PyData} (hh : A.handled = none) (hl : IsTup s.heap a vs.toArray) (r : Rds s.heap lv vs xs) : IterOk C A lv s (.ref a) xs := by
 intro Q E h
 obtain ⟨o,ho,hc,n,hd⟩ := id hl
 have hl' : s.heap.IsTuple a vs.toArray := hl
 refine wpAny_pyIter_tuple hl' (h s.heap.objs.size [s.heap.objs.size,a] (fun i v => vs.toArray[i]? = some v) (fun i h => h.IsTupleIter s.heap.objs.size a i ∧ h.IsTuple a vs.toArray) _ Kp.push' (get_none_size _) (by simp) (fun b hb => ?_) ⟨?_,?_,?_,?_,?_,?_⟩)
 ·simp only [List.mem_cons,List.not_mem_nil,or_false] at hb
  rcases hb with rfl | rfl
  ·exact .inl rfl
  ·exact .inr ⟨o,ho⟩
 ·have W := Walks.tuple (prog := C.prog) (w := C.w) (A := A) hh s.heap.objs.size a (ne_size ho) vs.toArray
  have e : vs.toArray.size = xs.length := by simp [r.length]
  rw [e] at W
  exact W
 ·exact ⟨⟨_,Heap.get?_push_size _ rfl,rfl,rfl⟩,⟨o,Heap.get?_push_of_some _ ho,hc,n,hd⟩⟩
 ·rintro i h ⟨⟨o1,e1,c1,d1⟩,⟨o2,e2,c2,n2,d2⟩⟩ b hb o' e'
  simp only [List.mem_cons,List.not_mem_nil,or_false] at hb
  rcases hb with rfl | rfl
  ·rw [e1] at e'; cases e'; rw [c1]; simp
  ·rw [e2] at e'; cases e'; rw [c2]; simp
 ·rintro i h ⟨⟨o1,e1,c1,d1⟩,_⟩
  exact ⟨o1,_,_,e1,c1,d1,by decide⟩
 ·intro b hb
  simp only [List.mem_cons,List.not_mem_nil,or_false] at hb
  rcases hb with rfl | rfl
  ·exact .inl rfl
  ·exact .inr ⟨o,Heap.get?_push_of_some _ ho,.inl ⟨hc,_,_,hd⟩⟩
 ·intro i v _ e
  have e' : vs[i]? = some v := by simpa using e
  obtain ⟨d,hd,hr⟩ := r.get' e'
  exact ⟨d,hd,hr.kp (lo := C.lo) Kp.push'⟩
noncomputable def rangeN (a b c : Int) : Nat := (Builtin.Range.rangeSize a b c).toNat
noncomputable def rangeL (a b c : Int) : List PyData := (List.range (rangeN a b c)).map fun (i : Nat) => .int (a + (i : Int) * c)
noncomputable def rangeOk (a b c : Int) : Bool := decide (-(2 ^ 40) ≤ a) && decide (a ≤ 2 ^ 40) && decide (-(2 ^ 40) ≤ b) && decide (b ≤ 2 ^ 40) && (c == 1 || c == -1)
theorem rangeSize_nonneg (a b c : Int) (hc : c = 1 ∨ c = -1) : 0 ≤ Builtin.Range.rangeSize a b c := by
 unfold Builtin.Range.rangeSize
 rcases hc with rfl | rfl
 ·simp; split <;> omega
 ·simp; split <;> omega
theorem iter_range {r : Addr} {a b c : Int} {t u v : Tok} (hh : A.handled = none) (hr : IsRange s.heap r a b c t u v) (ok : rangeOk a b c = true) : IterOk C A lv s (.ref r) (rangeL a b c) := by
 intro Q E h
 unfold rangeOk at ok
 simp only [Bool.and_eq_true,decide_eq_true_eq,Bool.or_eq_true,beq_iff_eq] at ok
 obtain ⟨⟨⟨⟨o1,o2⟩,o3⟩,o4⟩,o5⟩ := ok
 have hsz := rangeSize_nonneg a b c o5
 have hsm : Builtin.Range.small a b c = true := by
  unfold Builtin.Range.small Builtin.Range.rangeFitsLong Builtin.Range.rangeSize
  rcases o5 with rfl | rfl
  ·simp; refine ⟨⟨⟨⟨?_,?_⟩,?_⟩,?_⟩,?_⟩ <;> (try split) <;> (try simp) <;> omega
  ·simp; refine ⟨⟨⟨⟨?_,?_⟩,?_⟩,?_⟩,?_⟩ <;> (try split) <;> (try simp) <;> omega
 refine wpAny_pyIter_range hr hsm (h s.heap.objs.size [s.heap.objs.size] (fun i v => ∃ t,v = .int (a + i * c) t) (fun i h => IsRangeIter h s.heap.objs.size (a + (i : Nat) * c) (((rangeN a b c : Nat) : Int) - (i : Nat)) c) _ Kp.push' (get_none_size _) (by simp) (fun b hb => ?_) ⟨?_,?_,?_,?_,?_,?_⟩)
 ·simp only [List.mem_cons,List.not_mem_nil,or_false] at hb
  exact .inl hb
 ·have W := Walks.range (prog := C.prog) (w := C.w) (A := A) hh s.heap.objs.size a c (rangeN a b c)
  have e : (rangeL a b c).length = rangeN a b c := by simp [rangeL]
  rw [e]
  exact W
 ·have e2 : ((rangeN a b c : Nat) : Int) = Builtin.Range.rangeSize a b c := Int.toNat_of_nonneg hsz
  show IsRangeIter _ _ (a + ((0 : Nat) : Int) * c) (((rangeN a b c : Nat) : Int) - ((0 : Nat) : Int)) c
  rw [e2]
  have : a + ((0 : Nat) : Int) * c = a := by simp
  rw [this]
  have : Builtin.Range.rangeSize a b c - ((0 : Nat) : Int) = Builtin.Range.rangeSize a b c := by simp
  rw [this]
  exact Heap.get?_push_size _ rfl
 ·intro i h st b hb o' e'
  simp only [List.mem_cons,List.not_mem_nil,or_false] at hb
  subst hb
  have st' : h.get? s.heap.objs.size = _ := st
  rw [st'] at e'; cases e'; simp
 ·intro i h st
  have st' : h.get? s.heap.objs.size = _ := st
  exact ⟨_,_,_,st',rfl,rfl,by decide⟩
 ·intro b hb
  simp only [List.mem_cons,List.not_mem_nil,or_false] at hb
  exact .inl hb
 ·rintro i v hi ⟨t,rfl⟩
  refine ⟨.int (a + i * c),?_,rd_int⟩
  simp only [rangeL,List.length_map,List.length_range] at hi
  simp [rangeL,hi]
end
end
section
noncomputable def noStar : Expr → Bool
 | .Starred .. => false
 | _ => true
structure Md (lo : Nat) (Z : Addr → Prop) (s s' : Shared) : Prop where
 heap : ∀ b o,s.heap.get? b = some o → ¬ Z b → ∃ o',s'.heap.get? b = some o' ∧ Like lo b o o'
 nf : ∀ b o,s.heap.get? b = some o → (∀ vs,o.data ≠ .fields vs) → ∃ o',s'.heap.get? b = some o' ∧ ∀ vs,o'.data ≠ .fields vs
 fr : ∀ b o es ep,s.heap.get? b = some o → o.cls = .type "frame" → o.data = .dict es ep → ∃ o' es' ep',s'.heap.get? b = some o' ∧ o'.cls = .type "frame" ∧ o'.data = .dict es' ep'
 os : s'.os = s.os
 gens : GKeep s.gens s'.gens
theorem Kp.md {lo : Nat} {Z : Addr → Prop} {s s' : Shared} (k : Kp lo s s') : Md lo Z s s' :=
 ⟨fun b o e _ => k.heap b o e,fun b o e hn => let ⟨o',e',l⟩ := k.heap b o e; ⟨o',e',by rw [l.data]; exact hn⟩,fun b o es ep e c d => let ⟨o',e',l⟩ := k.heap b o e; ⟨o',es,ep,e',l.cls.trans c,l.data.trans d⟩,k.os,k.gens⟩
theorem Md.trans {lo : Nat} {Z : Addr → Prop} {s s' s'' : Shared} (x : Md lo Z s s') (y : Md lo Z s' s'') : Md lo Z s s'' :=
  ⟨fun b o e n => by
    obtain ⟨o',e',l⟩ := x.heap b o e n
    obtain ⟨o'',e'',l'⟩ := y.heap b o' e' n
    exact ⟨o'',e'',l.trans l'⟩,
   fun b o e hn => by obtain ⟨o',e',hn'⟩ := x.nf b o e hn; exact y.nf b o' e' hn',fun b o es ep e c d => by obtain ⟨o',es',ep',e',c',d'⟩ := x.fr b o es ep e c d; exact y.fr b o' es' ep' e' c' d',y.os.trans x.os,x.gens.trans y.gens⟩
theorem Md.kp {lo : Nat} {Z : Addr → Prop} {s₁ s s' : Shared} (k : Kp lo s₁ s) (x : Md lo Z s s') (h : ∀ b o,s₁.heap.get? b = some o → ¬ Z b) : Kp lo s₁ s' :=
 ⟨fun b o e => by
  obtain ⟨o',e',l⟩ := k.heap b o e
  obtain ⟨o'',e'',l'⟩ := x.heap b o' e' (h b o e)
  exact ⟨o'',e'',l.trans l'⟩,x.os.trans k.os,k.gens.trans x.gens⟩
theorem frames_md {C : Cx} {Z : Addr → Prop} {s s' : Shared} {l : List Env} (k : Md C.lo Z s s') (x : Frames C s.heap l) : Frames C s'.heap l := by
 obtain ⟨h2,h3⟩ := x
 refine ⟨?_,fun env he L hL => ?_⟩
 ·clear h3
  induction l with
  | nil => trivial
  | cons env rest ih =>
   refine byG fun G9 k9 => ?_
   obtain ⟨hk,⟨L,o,hf,hn,ho,hd⟩,hr⟩ := h2
   obtain ⟨o',ho',hd'⟩ := k.nf L o ho hd
   refine k9 ?_
   clear k9 G9
   exact ⟨hk,⟨L,o',hf,hn,ho',hd'⟩,ih hr⟩
 ·refine byG fun G9 k9 => ?_
  obtain ⟨h1,o,es,ep,e,c,d⟩ := h3 env he L hL
  refine k9 ?_
  clear k9 G9
  exact ⟨h1,k.fr L o es ep e c d⟩
theorem Rm.md {C : Cx} {R : Nat} {A : Around} {Z : Addr → Prop} {s s' : Shared} (x : Rm C R A s) (k : Md C.lo Z s s') : Rm C R A s' :=
 ⟨x.depth,x.units,let ⟨l,h1,h2⟩ := x.fr; ⟨l,h1,frames_md k h2⟩⟩
theorem Md.low {C : Cx} {s s' : Shared} {Z : Addr → Prop} (x : Md C.lo Z s s') {b : Addr} {o : Obj} (e : s.heap.get? b = some o) (hz : ¬ Z b) (hb : b < C.lo) : s'.heap.get? b = some o := by
 obtain ⟨o',e',l⟩ := x.heap b o e hz
 rcases l with rfl | ⟨h,_⟩
 ·exact e'
 ·exact absurd hb (Nat.not_lt.mpr h)
theorem Md.get {s s' : Shared} {lo : Nat} {Z : Addr → Prop} (x : Md lo Z s s') {b : Addr} {o : Obj} (e : s.heap.get? b = some o) (hz : ¬ Z b) (hc : o.cls ≠ .type "frame") : s'.heap.get? b = some o := by
 obtain ⟨o',e',l⟩ := x.heap b o e hz
 rw [l.eq hc] at e'; exact e'
section
noncomputable def allNews (h₀ h : Heap) (L : Addr) : List (Addr × Obj) := (List.range h.objs.size).filterMap fun a => match h.get? a with
 | some o => if a = L ∨ (h₀.get? a).isSome = true then none else some (a,o)
 | none => none
theorem allNews_mem {h₀ h : Heap} {L a : Addr} {o : Obj} : (a,o) ∈ allNews h₀ h L ↔ h.get? a = some o ∧ a ≠ L ∧ h₀.get? a = none := by
 unfold allNews
 rw [List.mem_filterMap]
 constructor
 ·rintro ⟨b,hb,e⟩
  split at e
  ·rename_i o' ho
   split at e
   ·cases e
   ·rename_i hn
    cases e
    rw [not_or] at hn
    exact ⟨ho,hn.1,by simpa using hn.2⟩
  ·cases e
 ·rintro ⟨h1,h2,h3⟩
  refine ⟨a,List.mem_range.mpr (Heap.lt_size h1),?_⟩
  rw [h1]
  dsimp only
  rw [if_neg]
  rw [not_or]
  exact ⟨h2,by rw [h3]; simp⟩
theorem allNews_news {h₀ h : Heap} {L : Addr} : News h₀ L h (allNews h₀ h L) := fun p hp => by
 obtain ⟨a,o⟩ := p
 exact allNews_mem.mp hp
theorem allNews_nodup {h₀ h : Heap} {L : Addr} : ((allNews h₀ h L).map (·.1)).Nodup := by
 have key : ∀ l : List Nat,l.Nodup → ((l.filterMap fun a => match h.get? a with
   | some o => if a = L ∨ (h₀.get? a).isSome = true then none else some (a,o)
   | none => none).map (·.1)).Nodup ∧ ∀ x ∈ (l.filterMap fun a => match h.get? a with
   | some o => if a = L ∨ (h₀.get? a).isSome = true then none else some (a,o)
   | none => none).map (·.1),x ∈ l := by
  intro l
  induction l with
  | nil => intro _; simp
  | cons a r ih =>
   intro nd
   rw [List.nodup_cons] at nd
   obtain ⟨h1,h2⟩ := ih nd.2
   rw [List.filterMap_cons]
   split
   ·exact ⟨h1,fun x hx => List.mem_cons_of_mem _ (h2 x hx)⟩
   ·rename_i p hp
    have hp1 : p.1 = a := by
     split at hp
     ·split at hp
      ·cases hp
      ·cases hp; rfl
     ·cases hp
    rw [List.map_cons,List.nodup_cons,hp1]
    refine ⟨⟨fun hm => nd.1 (h2 a hm),h1⟩,fun x hx => ?_⟩
    rcases List.mem_cons.mp hx with rfl | hx
    ·exact List.mem_cons_self
    ·exact List.mem_cons_of_mem _ (h2 x hx)
 exact (key _ List.nodup_range).1
theorem upd_of {x : Addr} {o o' : Obj} : ∀ {l : List (Addr × Obj)},(l.map (·.1)).Nodup → (x,o) ∈ l → ∃ l',Upd x o o' l l' ∧ (x,o') ∈ l' ∧ ∀ p ∈ l,p.1 ≠ x → p ∈ l'
 | (a,q) :: r,nd,hm => by
  rw [List.map_cons,List.nodup_cons] at nd
  rcases List.mem_cons.mp hm with e | hm
  ·cases e
   refine ⟨_,.head fun p hp e => nd.1 (List.mem_map.mpr ⟨p,hp,e⟩),List.mem_cons_self,fun p hp hne => ?_⟩
   rcases List.mem_cons.mp hp with rfl | hp
   ·exact (hne rfl).elim
   ·exact List.mem_cons_of_mem _ hp
  ·refine byG fun G9 k9 => ?_
   obtain ⟨l',u,h1,h2⟩ := upd_of (o := o) (o' := o') nd.2 hm
   refine k9 ?_
   clear k9 G9
   have hax : a ≠ x := fun e => nd.1 (List.mem_map.mpr ⟨(x,o),hm,e.symm⟩)
   refine ⟨_,.tail hax u,List.mem_cons_of_mem _ h1,fun p hp hne => ?_⟩
   rcases List.mem_cons.mp hp with rfl | hp
   ·exact List.mem_cons_self
   ·exact List.mem_cons_of_mem _ (h2 p hp hne)
section
variable {C : Cx} {A : Around} {E : Value → Shared → Prop} {s : Shared} {L x Cs : Addr} {m : Str → Option Value} {ox : Obj} {name : Str} {v : Value}
theorem Cx.On.fr (on : C.On s) (hn : s.heap.Ns L m) (hlo : C.lo ≤ L) : Fr C.h₀ L s.heap m := ⟨hn,on,hlo⟩
noncomputable def Rest (x L : Addr) (h h' : Heap) : Prop := ∀ b o,b ≠ x → b ≠ L → h.get? b = some o → h'.get? b = some o
theorem rest_of {h' : Heap} {news' : List (Addr × Obj)} (on : C.On s) (F' : Fr C.h₀ L h' m) (N' : News C.h₀ L h' news') (hk : ∀ p ∈ allNews C.h₀ s.heap L,p.1 ≠ x → p ∈ news') : Rest x L s.heap h' := by
 intro b o hx hL e
 cases e0 : C.h₀.get? b with
 | some o' =>
  have := on b o' e0
  rw [e] at this; obtain rfl := Option.some.inj this
  exact F'.keep b o e0
 | none => exact (N' (b,o) (hk (b,o) (allNews_mem.mpr ⟨e,hL,e0⟩) hx)).1
structure SlotIs (K : Frag) (Cs : Addr) (name : Str) (i : Nat) : Prop where
 hs : findIn K (.ref Cs) "__setattr__" = some (some (.builtin "object.__setattr__"))
 hp : plainOver K Cs = true
 hg : plainGet K Cs name = true
 hc : isClsIn K Cs = true
 p : ∃ p,takerIn K Cs name = some (some (.ref p)) ∧ typeIn K (.ref p) = some (.type "member_descriptor") ∧ slotIn K p Cs = some i ∧ findIn K (.ref Cs) name = some (some (.ref p)) ∧
  specialIn K (.ref p) "__get__" = some (some (.builtin "member_descriptor.__get__")) ∧ takesIn K (.ref p) = some true
 hz : i < 1000
noncomputable def sl (o : Obj) (k : Nat) : Option Value := (o.slots[k]?).join
noncomputable def setSl (o : Obj) (i : Nat) (v : Value) : Obj := { o with slots := (o.slots ++ Array.replicate (i + 1 - o.slots.size) none).setIfInBounds i (some v) }
theorem sl_setSl (o : Obj) (i k : Nat) (v : Value) : sl (setSl o i v) k = if k = i then some v else sl o k := by
 unfold sl setSl
 dsimp only
 rw [Array.getElem?_setIfInBounds]
 by_cases hk : i = k
 ·subst hk
  have : i < (o.slots ++ Array.replicate (i + 1 - o.slots.size) none).size := by simp; omega
  rw [if_pos rfl,if_pos this,if_pos rfl]; rfl
 ·rw [if_neg hk,if_neg fun e => hk e.symm,Array.getElem?_append]
  split
  ·rfl
  ·rename_i hlt
   rw [Array.getElem?_replicate]
   have : o.slots[k]? = none := Array.getElem?_eq_none (Nat.not_lt.mp hlt)
   rw [this]
   split <;> rfl
theorem set_slot' {i : Nat} {od : Obj} {Q : Unit → Shared → Prop} (on : C.On s) (hn : s.heap.Ns L m) (hlo : C.lo ≤ L) (I : InstAt s.heap x ox Cs (some od)) (hx0 : C.h₀.get? x = none) (hxL : x ≠ L) (S : SlotIs C.K Cs name i) (hf : ox.data = .plain)
  (h : ∀ h' tk,h'.get? x = some (setSl ox i v) → Rest x L s.heap h' → h'.Ns L m → Q () { s with heap := h',toks := tk }) : wpAny C.M A (setAttr (.ref x) name v) Q E s := by
 obtain ⟨p,p1,p2,p3,p4,p5,p6⟩ := S.p
 obtain ⟨news',U,hm,hk⟩ := upd_of (o := ox) (o' := setSl ox i v) allNews_nodup (allNews_mem.mpr ⟨I.at_,hxL,hx0⟩)
 refine set_slot (on.fr hn hlo) C.kin allNews_news I S.hs S.hp p1 p2 p3 S.hz rfl (by unfold Obj.isFreed; simp [hf]) U fun h' F' N' => h h' _ (N' _ hm).1 (rest_of on F' N' hk) F'.ns
noncomputable def Rest1 (x : Addr) (h h' : Heap) : Prop := ∀ b o,b ≠ x → h.get? b = some o → h'.get? b = some o
theorem ns_empty {h : Heap} {a : Addr} (e : h.get? a = some emptyDict) : h.Ns a (fun _ => none) := ⟨_,#[],0,e,rfl,fun e he => by simp at he,fun _ => rfl⟩
theorem set_slot2 {i : Nat} {od : Obj} {dm : Addr} {Q : Unit → Shared → Prop} (on : C.On s) (hn : s.heap.Ns L m) (hlo : C.lo ≤ L) (hdm : s.heap.get? dm = some emptyDict) (hdl : C.lo ≤ dm) (hdL : dm ≠ L) (hdx : dm ≠ x) (I : InstAt s.heap x ox Cs (some od)) (hx0 : C.h₀.get? x = none) (hxL : x ≠ L) (S : SlotIs C.K Cs name i) (hf : ox.data = .plain)
  (h : ∀ h' tk,h'.get? x = some (setSl ox i v) → Rest1 x s.heap h' → Q () { s with heap := h',toks := tk }) : wpAny C.M A (setAttr (.ref x) name v) Q E s := by
 have r1 : wpAny C.M A (setAttr (.ref x) name v) (fun _ s' => s'.heap.get? x = some (setSl ox i v) ∧ Rest x L s.heap s'.heap ∧ ∃ h' tk,s' = { s with heap := h',toks := tk }) E s :=
  set_slot' on hn hlo I hx0 hxL S hf fun h' tk a b _ => ⟨a,b,h',tk,rfl⟩
 have r2 : wpAny C.M A (setAttr (.ref x) name v) (fun _ s' => Rest x dm s.heap s'.heap) E s :=
  set_slot' on (ns_empty hdm) hdl I hx0 (Ne.symm hdx) S hf fun h' tk a b _ => b
 refine wpAny_mono (wpAny_and r1 r2) (fun _ s' z => ?_) fun _ _ x => x
 obtain ⟨⟨a,b,h',tk,rfl⟩,c⟩ := z
 refine h h' tk a fun y o hy e => ?_
 by_cases hyL : y = L
 ·exact c y o hy (fun q => hdL (q.symm.trans hyL)) e
 ·exact b y o hy hyL e
theorem get_slot' {i : Nat} {od : Obj} {expr : Bool} {Q : Value → Shared → Prop} (on : C.On s) (hn : s.heap.Ns L m) (hlo : C.lo ≤ L) (I : InstAt s.heap x ox Cs (some od)) (S : SlotIs C.K Cs name i) (hv : sl ox i = some v) (hh : handedIn v = true)
  (h : Q v { s with toks := s.toks + 1 }) : wpAny C.M A (getAttr (.ref x) name expr) Q E s := by
 obtain ⟨p,p1,p2,p3,p4,p5,p6⟩ := S.p
 exact get_slot (on.fr hn hlo) C.kin I S.hg S.hc p4 p5 p6 p3 hv hh h
structure AttrIs (K : Frag) (Cs : Addr) (name : Str) : Prop where
 hs : findIn K (.ref Cs) "__setattr__" = some (some (.builtin "object.__setattr__"))
 hp : plainOver K Cs = true
 hg : plainGet K Cs name = true
 ht : takerIn K Cs name = some none
 hh : hasDictIn K Cs = true
 ha : ∃ attr,findIn K (.ref Cs) name = some attr ∧ noGet K attr = true
theorem set_attr' {es : List DictEntry} {n : Nat} {dx : Addr} {Q : Unit → Shared → Prop} (on : C.On s) (hn : s.heap.Ns L m) (hlo : C.lo ≤ L) (I : InstAt s.heap x ox Cs (some (dictOf es n))) (hd : ox.dict = some dx) (hx0 : C.h₀.get? dx = none) (hxL : dx ≠ L) (S : AttrIs C.K Cs name)
  (hl : (getL name es).isSome = true) (hz : es.length ≤ 900)
  (h : ∀ h' tk t,h'.get? dx = some (dictOf (putL name (PyData.keyHash C.w.params name) (.str name t) v es) (putN name es n)) → Rest dx L s.heap h' → h'.Ns L m → Q () { s with heap := h',toks := tk }) : wpAny C.M A (setAttr (.ref x) name v) Q E s := by
 have hdx : s.heap.get? dx = some (dictOf es n) := by have := I.dict; rw [hd] at this; exact this
 obtain ⟨news',U,hm,hk⟩ := upd_of (o := dictOf es n) (o' := dictOf (putL name (PyData.keyHash C.w.params name) (.str name (s.toks + 1)) v es) (putN name es n)) allNews_nodup (allNews_mem.mpr ⟨hdx,hxL,hx0⟩)
 have hlen : ∀ es : List DictEntry,(putL name (PyData.keyHash C.w.params name) (.str name (s.toks + 1)) v es).length ≤ es.length + 1 := by
  intro es
  induction es with
  | nil => simp [putL]
  | cons e r ih => unfold putL; split <;> simp_all
 refine set_dict (on.fr hn hlo) C.kin allNews_news I hd S.hs S.hp S.ht S.hh hl rfl U (by have := hlen es; omega) fun h' F' N' => h h' _ _ (N' _ hm).1 (rest_of on F' N' hk) F'.ns
theorem set_attr2 {es : List DictEntry} {n : Nat} {dx dm : Addr} {Q : Unit → Shared → Prop} (on : C.On s) (hn : s.heap.Ns L m) (hlo : C.lo ≤ L) (hdm : s.heap.get? dm = some emptyDict) (hdl : C.lo ≤ dm) (hdL : dm ≠ L) (hdd : dm ≠ dx) (I : InstAt s.heap x ox Cs (some (dictOf es n))) (hd : ox.dict = some dx) (hx0 : C.h₀.get? dx = none) (hxL : dx ≠ L) (S : AttrIs C.K Cs name)
  (hl : (getL name es).isSome = true) (hz : es.length ≤ 900)
  (h : ∀ h' tk t,h'.get? dx = some (dictOf (putL name (PyData.keyHash C.w.params name) (.str name t) v es) (putN name es n)) → Rest1 dx s.heap h' → Q () { s with heap := h',toks := tk }) : wpAny C.M A (setAttr (.ref x) name v) Q E s := by
 have r1 : wpAny C.M A (setAttr (.ref x) name v) (fun _ s' => (∃ t,s'.heap.get? dx = some (dictOf (putL name (PyData.keyHash C.w.params name) (.str name t) v es) (putN name es n))) ∧ Rest dx L s.heap s'.heap ∧ ∃ h' tk,s' = { s with heap := h',toks := tk }) E s :=
  set_attr' on hn hlo I hd hx0 hxL S hl hz fun h' tk t a b _ => ⟨⟨t,a⟩,b,h',tk,rfl⟩
 have r2 : wpAny C.M A (setAttr (.ref x) name v) (fun _ s' => Rest dx dm s.heap s'.heap) E s :=
  set_attr' on (ns_empty hdm) hdl I hd hx0 (Ne.symm hdd) S hl hz fun h' tk t a b _ => b
 refine wpAny_mono (wpAny_and r1 r2) (fun _ s' z => ?_) fun _ _ x => x
 obtain ⟨⟨⟨t,a⟩,b,h',tk,rfl⟩,c⟩ := z
 refine h h' tk t a fun y o hy e => ?_
 by_cases hyL : y = L
 ·exact c y o hy (fun q => hdL (q.symm.trans hyL)) e
 ·exact b y o hy hyL e
theorem get_attr' {es : List DictEntry} {n : Nat} {expr : Bool} {Q : Value → Shared → Prop} (on : C.On s) (hn : s.heap.Ns L m) (hlo : C.lo ≤ L) (I : InstAt s.heap x ox Cs (some (dictOf es n))) (S : AttrIs C.K Cs name) (hl : getL name es = some (some v)) (hv : handedIn v = true)
  (h : Q v { s with toks := s.toks + 1 }) : wpAny C.M A (getAttr (.ref x) name expr) Q E s := by
 obtain ⟨attr,a1,a2⟩ := S.ha
 exact get_own (on.fr hn hlo) C.kin I S.hg S.hh a1 a2 hl hv h
end
end
section
variable {s s' : Shared} {C : Cx}
theorem rest_md {x : Addr} {ox : Obj} {h' : Heap} {tk : Nat} (hr : Rest1 x s.heap h') (e0 : s.heap.get? x = some ox) (hf : ox.cls ≠ .type "frame") (hx : ∃ o',h'.get? x = some o' ∧ ∀ vs,o'.data ≠ .fields vs) : Md C.lo (· = x) s { s with heap := h',toks := tk } :=
 ⟨fun b o e hz => ⟨o,hr b o hz e,Like.refl ..⟩,fun b o e hn => by
  by_cases hb : b = x
  ·subst hb; exact hx
  ·exact ⟨o,hr b o hb e,hn⟩,fun b o es ep e c d => by
  by_cases hb : b = x
  ·subst hb; rw [e0] at e; obtain rfl := Option.some.inj e; exact (hf c).elim
  ·exact ⟨o,es,ep,hr b o hb e,c,d⟩,rfl,GKeep.refl _⟩
end
section
variable {C : Cx} {R : Nat} {A : Around} {env : Env} {s s' : Shared} {E : Value → Shared → Prop}
theorem call_attr {o : Expr} {name : Str} {apos pos : Pos} {args : List Expr} {Q : Value → Shared → Prop} (hbase : attributeBase o name env (eval o env) = eval o env)
  (hfew : ((backTo pos (starEach args env)).all (fun x => !x.1) && (backToKw pos (keywordEach [] env)).all (fun x => x.1.isSome)
   && decide (args.length + ([] : List Keyword).length + (if ([] : List Keyword).isEmpty then 0 else 1) < 30)) = true)
  (hline : (apos.endLine == pos.line) = true)
  (h : wpAny C.M A (eval o env) (fun ov s₁ => ∀ pl,wpAny C.M A (getMethod ov name pl) (fun r s₂ => wpAny C.M A (callWith pos r.1 r.2 (backTo pos (starEach args env)) []) Q E s₂) E s₁) E s) :
  wpAny C.M A (eval (.Call (.Attribute o name apos) args [] pos) env) Q E s := by
 rw [arm_eval_Call,hbase]
 refine wpAny_bind (wpAny_mono h (fun ov s₁ h₁ => ?_) fun _ _ e => e)
 refine wpAny_bind (wpAny_standAt ?_)
 have hform : methodCallForm (args.length + ([] : List Keyword).length) (backTo pos (starEach args env)) (backToKw pos (keywordEach [] env)) = true := hfew
 have hpos : methodCallPos true o env apos pos = pure pos := by unfold methodCallPos; simp [hline]
 unfold methodCall
 rw [hform]
 exact wpAny_bind (wpAny_holding (wpAny_mono (h₁ _) (fun r s₂ h₂ => wpAny_bind (wpAny_of_eq hpos h₂)) fun _ _ e => e))
theorem star_cons {e : Expr} {es : List Expr} (h : noStar e = true) : starEach (e :: es) env = (false,eval e env) :: starEach es env := by
 cases e <;> first | rfl | exact no_tf h
theorem args_one {M : Model} {e : Expr} {pos : Pos} {Q : List Value → Shared → Prop} (hs : noStar e = true) (h : wpAny M A (eval e env) (fun v s₁ => Q [v] s₁) E s) : wpAny M A (spliced (backTo pos (starEach [e] env))) Q E s := by
 rw [star_cons hs]
 refine Calls.spliced_cons ?_
 show wpAny M A (eval e env) _ _ s
 exact wpAny_mono h (fun v s₁ h₁ => args_nil (env := env) h₁) fun _ _ x => x
noncomputable def AllStr (es : List DictEntry) : Prop := ∀ e ∈ es,∃ n t,e.key = .str n t
theorem AllStr.put {es : List DictEntry} {name : Str} {hsh : Int} {t : Tok} {v : Value} (h : AllStr es) : AllStr (putL name hsh (.str name t) v es) := by
 induction es with
 | nil => intro e he; simp [putL] at he; subst he; exact ⟨_,_,rfl⟩
 | cons e r ih =>
  unfold putL
  split
  ·intro e' he'
   rcases List.mem_cons.mp he' with rfl | he'
   ·exact h e List.mem_cons_self
   ·exact h e' (List.mem_cons_of_mem _ he')
  ·intro e' he'
   rcases List.mem_cons.mp he' with rfl | he'
   ·exact h _ List.mem_cons_self
   ·exact ih (fun x hx => h x (List.mem_cons_of_mem _ hx)) e' he'
theorem AllStr.noRef {es : List DictEntry} (h : AllStr es) : es.any (·.refKey) = false := by
 rw [List.any_eq_false]
 intro e he
 obtain ⟨n,t,q⟩ := h e he
 simp [DictEntry.refKey,q]
theorem getL_put {es : List DictEntry} (h : AllStr es) (n name : Str) (hsh : Int) (t : Tok) (v : Value) : getL n (putL name hsh (.str name t) v es) = if n = name then some (some v) else getL n es := by
 have key : ∀ es : List DictEntry,AllStr es → ((putL name hsh (.str name t) v es).find? (·.key.isStr n)).map (·.val) = if n = name then some v else (es.find? (·.key.isStr n)).map (·.val) := by
  intro es
  induction es with
  | nil =>
   intro _
   simp only [putL,List.find?_cons,List.find?_nil]
   by_cases hn : n = name
   ·subst hn; simp [Value.isStr]
   ·have : (Value.str name t).isStr n = false := by simp [Value.isStr]; exact fun e => hn e.symm
    simp [this,hn]
  | cons e r ih =>
   intro hA
   have ih := ih fun x hx => hA x (List.mem_cons_of_mem _ hx)
   obtain ⟨k,tk,hk⟩ := hA e List.mem_cons_self
   unfold putL
   split
   ·rename_i he
    have hkn : k = name := by rw [hk] at he; simpa [Value.isStr] using he
    simp only [List.find?_cons]
    by_cases hn : n = name
    ·subst hn
     simp [he]
    ·have : e.key.isStr n = false := by rw [hk,hkn]; simp [Value.isStr]; exact fun q => hn q.symm
     simp [this,hn]
   ·rename_i he
    simp only [List.find?_cons]
    by_cases hen : e.key.isStr n = true
    ·have : n ≠ name := by rintro rfl; exact he hen
     simp [hen,this]
    ·simp only [Bool.not_eq_true] at hen
     simp only [hen]
     exact ih
 have k1 := key es h
 have e1 : ∀ es : List DictEntry,AllStr es → getL n es = some ((es.find? (·.key.isStr n)).map (·.val)) := by
  intro es hA
  unfold getL
  cases hf : es.find? (·.key.isStr n) with
  | none => simp [hA.noRef]
  | some e => rfl
 rw [e1 _ h.put,e1 _ h,k1]
 split <;> rfl
end
theorem On_none {C : Cx} {s : Shared} (T : C.On s) {b : Addr} (h : s.heap.get? b = none) : C.h₀.get? b = none := by
 cases e : C.h₀.get? b with
 | none => rfl
 | some o => rw [T b o e] at h; cases h
inductive All2 {α β : Type} (R : α → β → Prop) : List α → List β → Prop
 | nil : All2 R [] []
 | cons {a b as bs} : R a b → All2 R as bs → All2 R (a :: as) (b :: bs)
theorem All2.imp {α β : Type} {R R' : α → β → Prop} (h : ∀ a b,R a b → R' a b) {as : List α} {bs : List β} (x : All2 R as bs) : All2 R' as bs := by
 induction x with
 | nil => exact .nil
 | cons r _ ih => exact .cons (h _ _ r) ih
theorem All2.length {α β : Type} {R : α → β → Prop} : ∀ {as : List α} {bs : List β},All2 R as bs → as.length = bs.length
 | _,_,.nil => rfl
 | _,_,.cons _ y => by simp [y.length]
theorem All2.append {α β : Type} {R : α → β → Prop} {as as' : List α} {bs bs' : List β} (x : All2 R as bs) (y : All2 R as' bs') : All2 R (as ++ as') (bs ++ bs') := by
 induction x with
 | nil => exact y
 | cons r _ ih => exact .cons r ih
end
section
noncomputable def ktNames : List Str := ["_zero_state","_counter","_finalized","_case_insensitive","_skip_pattern","_skip_pattern_type"]
structure KtAt (h : Heap) (kt dx : Addr) (z c fin : Value) : Prop where
 ob : ∃ o,h.get? kt = some o ∧ o.cls = .ref 125 ∧ o.dict = some dx ∧ o.data = .plain
 dc : ∃ es n,h.get? dx = some (dictOf es n) ∧ AllStr es ∧ es.length ≤ 30 ∧ getL "_zero_state" es = some (some z) ∧ getL "_counter" es = some (some c) ∧ getL "_finalized" es = some (some fin) ∧ getL "_case_insensitive" es = some (some (.bool false)) ∧ (∀ k : Str,k ∉ ktNames → getL k es = some none)
structure Ad where
 adr : Addr
 dct : Addr
 tab : Addr
noncomputable def wordD (k : List Int) : PyData := .tuple (k.map .int)
noncomputable def outsD (ws : List (List Int)) : PyData := .tuple (ws.map fun k => .tuple [wordD k,.int k.length])
noncomputable abbrev RdT (h : Heap) (v : Value) (d : PyData) : Prop := Rd h (fun _ => True) v d
noncomputable def refV (ad : List Ad) (o : Option Nat) (v : Value) : Prop := match o with
 | none => v = .none
 | some j => ∃ a,ad[j]? = some a ∧ v = .ref a.adr
noncomputable def symV (o : Option Int) (v : Value) : Prop := match o with
 | none => v = .none
 | some c => ∃ t,v = .int c t
noncomputable def kwV (h : Heap) (o : Option (List Int)) (v : Value) : Prop := match o with
 | none => v = .none
 | some k => RdT h v (wordD k)
noncomputable def outV (h : Heap) (o : Option (List (List Int))) (v : Option Value) : Prop := match o with
 | none => v = none
 | some ws => ∃ x,v = some x ∧ RdT h x (outsD ws)
structure ObAt (h : Heap) (ad : List Ad) (i : Nat) (n : PNd) (a : Ad) (ox : Obj) : Prop where
 at' : h.get? a.adr = some ox
 cls : ox.cls = .ref 34
 dict : ox.dict = some a.dct
 data : ox.data = .plain
 s0 : ∃ t,sl ox 0 = some (.int i t)
 s1 : ∃ v,sl ox 1 = some v ∧ refV ad n.lss v
 s2 : ∃ v,sl ox 2 = some v ∧ kwV h n.kw v
 s3 : outV h n.outs (sl ox 3)
 s4 : ∃ v,sl ox 4 = some v ∧ refV ad n.par v
 s5 : sl ox 5 = some (.bool n.suc)
 s6 : ∃ v,sl ox 6 = some v ∧ symV n.sym v
 s7 : sl ox 7 = some (.ref a.tab)
noncomputable def TabIs (C : Cx) (h : Heap) (ad : List Ad) (tr : List (Int × Nat)) (tab : Addr) : Prop :=
 ∃ kvs,h.DictOf (intKind C.prog C.w) tab kvs ∧ All2 (fun (p : Int × Nat) (q : Int × Value) => q.1 = p.1 ∧ ∃ a,ad[p.2]? = some a ∧ q.2 = .ref a.adr) tr kvs
structure NdAt (C : Cx) (h : Heap) (ad : List Ad) (i : Nat) (n : PNd) (a : Ad) : Prop where
 ob : ∃ ox,ObAt h ad i n a ox
 dc : h.get? a.dct = some emptyDict
 tb : TabIs C h ad n.tr a.tab
noncomputable def adAll (ad : List Ad) : List Addr := ad.flatMap fun a => [a.adr,a.dct,a.tab]
structure TH (C : Cx) (h : Heap) (T : List PNd) (ad : List Ad) : Prop where
 len : ad.length = T.length
 nd : ∀ (i : Nat) n a,T[i]? = some n → ad[i]? = some a → NdAt C h ad i n a
 lo : ∀ b ∈ adAll ad,C.lo ≤ b
 dis : (adAll ad).Nodup
section
variable {C : Cx} {h h' : Heap} {ad : List Ad} {T : List PNd}
theorem RdT.keep {v : Value} {d : PyData} (r : RdT h v d) (hk : ∀ b o vs n,h.get? b = some o → o.cls = .type "tuple" → o.data = .seq vs n → h'.get? b = some o) : RdT h' v d :=
 Rd.mono ⟨fun _ _ _ n _ => (n trivial).elim,hk,fun _ _ _ _ l => l⟩ r
theorem kwV.keep {o : Option (List Int)} {v : Value} (r : kwV h o v) (hk : ∀ b o vs n,h.get? b = some o → o.cls = .type "tuple" → o.data = .seq vs n → h'.get? b = some o) : kwV h' o v := by
 cases o with
 | none => exact r
 | some k => exact RdT.keep r hk
theorem outV.keep {o : Option (List (List Int))} {v : Option Value} (r : outV h o v) (hk : ∀ b o vs n,h.get? b = some o → o.cls = .type "tuple" → o.data = .seq vs n → h'.get? b = some o) : outV h' o v := by
 cases o with
 | none => exact r
 | some k => obtain ⟨x,e,r⟩ := r; exact ⟨x,e,RdT.keep r hk⟩
theorem mem_adAll {a : Ad} {i : Nat} (h : ad[i]? = some a) : a.adr ∈ adAll ad ∧ a.dct ∈ adAll ad ∧ a.tab ∈ adAll ad := by
 have hm : a ∈ ad := by obtain ⟨h1,h2⟩ := List.getElem?_eq_some_iff.mp h; rw [← h2]; exact List.getElem_mem h1
 unfold adAll
 simp only [List.mem_flatMap]
 exact ⟨⟨a,hm,by simp⟩,⟨a,hm,by simp⟩,⟨a,hm,by simp⟩⟩
theorem TH.keep (H : TH C h T ad) (hk : ∀ b ∈ adAll ad,∀ o,h.get? b = some o → h'.get? b = some o) (ht : ∀ b o vs n,h.get? b = some o → o.cls = .type "tuple" → o.data = .seq vs n → h'.get? b = some o) : TH C h' T ad := by
 refine ⟨H.len,fun i n a hn ha => ?_,H.lo,H.dis⟩
 obtain ⟨⟨ox,O⟩,dc,kvs,hd,al⟩ := H.nd i n a hn ha
 obtain ⟨m1,m2,m3⟩ := mem_adAll ha
 refine ⟨⟨ox,⟨hk _ m1 _ O.at',O.cls,O.dict,O.data,O.s0,O.s1,?_,O.s3.keep ht,O.s4,O.s5,O.s6,O.s7⟩⟩,hk _ m2 _ dc,kvs,?_,al⟩
 ·obtain ⟨v,e,r⟩ := O.s2; exact ⟨v,e,r.keep ht⟩
 ·obtain ⟨o,es,ep,e,r⟩ := hd
  exact ⟨o,es,ep,hk _ m3 _ e,r⟩
end
section
variable {C : Cx} {R : Nat} {A : Around} {s s' : Shared} {E : Value → Shared → Prop}
structure TS where
 T : List PNd
 ob : List Obj
 cn : Nat
structure Live (C : Cx) (h : Heap) (kt dx : Addr) (T : TS) (ad : List Ad) (fin : Bool) : Prop where
 th : TH C h T.T ad
 z : ∃ a,ad[0]? = some a ∧ ∃ t,KtAt h kt dx (.ref a.adr) (.int T.cn t) (.bool fin)
 hd : kt ∉ adAll ad ∧ dx ∉ adAll ad ∧ kt ≠ dx
 lo : C.lo ≤ kt ∧ C.lo ≤ dx
variable {C : Cx} {h h' : Heap} {ad : List Ad} {T : List PNd}
theorem adAll_at {i j : Nat} {a b : Ad} (nd : (adAll ad).Nodup) (ha : ad[i]? = some a) (hb : ad[j]? = some b) : (i ≠ j → a.adr ≠ b.adr ∧ a.dct ≠ b.dct ∧ a.tab ≠ b.tab) ∧ (a.adr ≠ b.dct ∧ a.adr ≠ b.tab ∧ a.dct ≠ b.tab) := by
 have key : ∀ (ad : List Ad),(adAll ad).Nodup → ∀ (i j : Nat) (a b : Ad),ad[i]? = some a → ad[j]? = some b → (i ≠ j → a.adr ≠ b.adr ∧ a.dct ≠ b.dct ∧ a.tab ≠ b.tab) ∧ (a.adr ≠ b.dct ∧ a.adr ≠ b.tab ∧ a.dct ≠ b.tab) := by
  intro ad
  induction ad with
  | nil => intro _ i j a b ha; simp at ha
  | cons x r ih =>
   intro nd i j a b ha hb
   have e : adAll (x :: r) = [x.adr,x.dct,x.tab] ++ adAll r := rfl
   rw [e,List.nodup_append] at nd
   obtain ⟨n1,n2,n3⟩ := nd
   simp only [List.nodup_cons,List.mem_cons,List.not_mem_nil,or_false,not_or,List.nodup_nil,and_true,not_false_eq_true] at n1
   cases i with
   | zero =>
    simp at ha; subst ha
    cases j with
    | zero => simp at hb; subst hb; exact ⟨fun q => (q rfl).elim,n1.1.1,n1.1.2,n1.2⟩
    | succ j =>
     simp at hb
     obtain ⟨m1,m2,m3⟩ := mem_adAll hb
     exact ⟨fun _ => ⟨n3 _ (by simp) _ m1,n3 _ (by simp) _ m2,n3 _ (by simp) _ m3⟩,n3 _ (by simp) _ m2,n3 _ (by simp) _ m3,n3 _ (by simp) _ m3⟩
   | succ i =>
    simp at ha
    obtain ⟨m1,m2,m3⟩ := mem_adAll ha
    cases j with
    | zero =>
     simp at hb; subst hb
     exact ⟨fun _ => ⟨fun q => n3 _ (by simp) _ m1 q.symm,fun q => n3 _ (by simp) _ m2 q.symm,fun q => n3 _ (by simp) _ m3 q.symm⟩,fun q => n3 _ (by simp) _ m1 q.symm,fun q => n3 _ (by simp) _ m1 q.symm,fun q => n3 _ (by simp) _ m2 q.symm⟩
    | succ j =>
     simp at hb
     obtain ⟨r1,r2⟩ := ih n2 i j a b ha hb
     exact ⟨fun q => r1 fun e => q (by rw [e]),r2⟩
 exact key ad nd i j a b ha hb
theorem TH.setOb (H : TH C h T ad) {i : Nat} {n' : PNd} {a : Ad} {ox' : Obj} (ha : ad[i]? = some a) (hr : Rest1 a.adr h h') (O : ObAt h' ad i n' a ox') (htr : ∀ n,T[i]? = some n → n'.tr = n.tr) (htup : ∀ o vs k,h.get? a.adr = some o → o.cls = .type "tuple" → o.data ≠ .seq vs k) : TH C h' (T.set i n') ad := by
 have ht : ∀ b o vs k,h.get? b = some o → o.cls = .type "tuple" → o.data = .seq vs k → h'.get? b = some o := fun b o vs k e c d => hr b o (by rintro rfl; exact htup o vs k e c d) e
 refine ⟨by simp [H.len],fun j n b hn hb => ?_,H.lo,H.dis⟩
 by_cases hij : i = j
 ·subst hij
  rw [ha] at hb; cases hb
  have hlt : i < T.length := by rw [← H.len]; exact (List.getElem?_eq_some_iff.mp ha).1
  rw [List.getElem?_set_self hlt] at hn; cases hn
  obtain ⟨_,dc,kvs,hd,al⟩ := H.nd i T[i] a (List.getElem?_eq_getElem hlt) ha
  obtain ⟨_,x1,x2,x3⟩ := adAll_at H.dis ha ha
  refine ⟨⟨ox',O⟩,hr _ _ (Ne.symm x1) dc,kvs,?_,by rw [htr _ (List.getElem?_eq_getElem hlt)]; exact al⟩
  obtain ⟨o,es,ep,e,r⟩ := hd
  exact ⟨o,es,ep,hr _ _ (Ne.symm x2) e,r⟩
 ·rw [List.getElem?_set_ne hij] at hn
  obtain ⟨⟨ox,Oj⟩,dc,kvs,hd,al⟩ := H.nd j n b hn hb
  obtain ⟨y1,x1,x2,x3⟩ := adAll_at H.dis ha hb
  refine ⟨⟨ox,⟨hr _ _ (Ne.symm (y1 hij).1) Oj.at',Oj.cls,Oj.dict,Oj.data,Oj.s0,Oj.s1,?_,Oj.s3.keep ht,Oj.s4,Oj.s5,Oj.s6,Oj.s7⟩⟩,hr _ _ (Ne.symm x1) dc,kvs,?_,al⟩
  ·obtain ⟨v,e,r⟩ := Oj.s2; exact ⟨v,e,r.keep ht⟩
  ·obtain ⟨o,es,ep,e,r⟩ := hd
   exact ⟨o,es,ep,hr _ _ (Ne.symm x2) e,r⟩
theorem TH.setTab (H : TH C h T ad) {i : Nat} {n : PNd} {a : Ad} {tr' : List (Int × Nat)} (hn : T[i]? = some n) (ha : ad[i]? = some a) (hr : Rest1 a.tab h h') (hT : TabIs C h' ad tr' a.tab) (htup : ∀ o vs k,h.get? a.tab = some o → o.cls = .type "tuple" → o.data ≠ .seq vs k) : TH C h' (T.set i { n with tr := tr' }) ad := by
 have ht : ∀ b o vs k,h.get? b = some o → o.cls = .type "tuple" → o.data = .seq vs k → h'.get? b = some o := fun b o vs k e c d => hr b o (by rintro rfl; exact htup o vs k e c d) e
 refine ⟨by simp [H.len],fun j m b hm hb => ?_,H.lo,H.dis⟩
 by_cases hij : i = j
 ·subst hij
  rw [ha] at hb; cases hb
  have hlt : i < T.length := (List.getElem?_eq_some_iff.mp hn).1
  rw [List.getElem?_set_self hlt] at hm; cases hm
  refine byG fun G9 k9 => ?_
  obtain ⟨⟨ox,O⟩,dc,_⟩ := H.nd i n a hn ha
  obtain ⟨_,x1,x2,x3⟩ := adAll_at H.dis ha ha
  refine k9 ?_
  clear k9 G9
  refine ⟨⟨ox,⟨hr _ _ x2 O.at',O.cls,O.dict,O.data,O.s0,O.s1,?_,O.s3.keep ht,O.s4,O.s5,O.s6,O.s7⟩⟩,hr _ _ x3 dc,hT⟩
  obtain ⟨v,e,r⟩ := O.s2; exact ⟨v,e,r.keep ht⟩
 ·rw [List.getElem?_set_ne hij] at hm
  obtain ⟨⟨ox,Oj⟩,dc,kvs,hd,al⟩ := H.nd j m b hm hb
  obtain ⟨y1,x1,x2,x3⟩ := adAll_at H.dis hb ha
  refine ⟨⟨ox,⟨hr _ _ x2 Oj.at',Oj.cls,Oj.dict,Oj.data,Oj.s0,Oj.s1,?_,Oj.s3.keep ht,Oj.s4,Oj.s5,Oj.s6,Oj.s7⟩⟩,hr _ _ x3 dc,kvs,?_,al⟩
  ·obtain ⟨v,e,r⟩ := Oj.s2; exact ⟨v,e,r.keep ht⟩
  ·obtain ⟨o,es,ep,e,r⟩ := hd
   exact ⟨o,es,ep,hr _ _ (y1 fun q => hij q.symm).2.2 e,r⟩
theorem refV.push {o : Option Nat} {v : Value} {b : Ad} (r : refV ad o v) : refV (ad ++ [b]) o v := by
 cases o with
 | none => exact r
 | some j =>
  obtain ⟨a,e,q⟩ := r
  exact ⟨a,by rw [List.getElem?_append_left (List.getElem?_eq_some_iff.mp e).1]; exact e,q⟩
theorem TabIs.push {tr : List (Int × Nat)} {tab : Addr} {b : Ad} (r : TabIs C h ad tr tab) : TabIs C h (ad ++ [b]) tr tab := by
 obtain ⟨kvs,hd,al⟩ := r
 exact ⟨kvs,hd,al.imp fun p q z => ⟨z.1,let ⟨a,e,q⟩ := z.2; ⟨a,by rw [List.getElem?_append_left (List.getElem?_eq_some_iff.mp e).1]; exact e,q⟩⟩⟩
theorem ObAt.push {i : Nat} {n : PNd} {a b : Ad} {ox : Obj} (O : ObAt h ad i n a ox) : ObAt h (ad ++ [b]) i n a ox :=
 ⟨O.at',O.cls,O.dict,O.data,O.s0,let ⟨v,e,r⟩ := O.s1; ⟨v,e,r.push⟩,O.s2,O.s3,let ⟨v,e,r⟩ := O.s4; ⟨v,e,r.push⟩,O.s5,O.s6,O.s7⟩
theorem TH.push (H : TH C h T ad) {n : PNd} {a : Ad} (hn : NdAt C h (ad ++ [a]) T.length n a) (hlo : C.lo ≤ a.adr ∧ C.lo ≤ a.dct ∧ C.lo ≤ a.tab) (hd : a.adr ≠ a.dct ∧ a.adr ≠ a.tab ∧ a.dct ≠ a.tab) (hnew : a.adr ∉ adAll ad ∧ a.dct ∉ adAll ad ∧ a.tab ∉ adAll ad) : TH C h (T ++ [n]) (ad ++ [a]) := by
 have e : adAll (ad ++ [a]) = adAll ad ++ [a.adr,a.dct,a.tab] := by unfold adAll; rw [List.flatMap_append]; rfl
 refine ⟨by simp [H.len],fun i m b hm hb => ?_,fun b hb => ?_,?_⟩
 ·by_cases hi : i < T.length
  ·rw [List.getElem?_append_left hi] at hm
   rw [List.getElem?_append_left (by rw [H.len]; exact hi)] at hb
   obtain ⟨⟨ox,O⟩,dc,tb⟩ := H.nd i m b hm hb
   exact ⟨⟨ox,O.push⟩,dc,tb.push⟩
  ·have hi' : i = T.length := by
    have := (List.getElem?_eq_some_iff.mp hm).1
    simp at this; omega
   subst hi'
   rw [List.getElem?_append_right (Nat.le_refl _)] at hm
   rw [← H.len,List.getElem?_append_right (Nat.le_refl _)] at hb
   simp at hm hb
   subst hm; subst hb
   exact hn
 ·rw [e] at hb
  rcases List.mem_append.mp hb with hb | hb
  ·exact H.lo b hb
  ·simp only [List.mem_cons,List.not_mem_nil,or_false] at hb
   rcases hb with rfl | rfl | rfl
   ·exact hlo.1
   ·exact hlo.2.1
   ·exact hlo.2.2
 ·rw [e,List.nodup_append]
  refine ⟨H.dis,by simp [hd.1,hd.2.1,hd.2.2],fun x hx y hy q => ?_⟩
  subst q
  simp only [List.mem_cons,List.not_mem_nil,or_false] at hy
  rcases hy with rfl | rfl | rfl
  ·exact hnew.1 hx
  ·exact hnew.2.1 hx
  ·exact hnew.2.2 hx
end
section
variable {C : Cx} {h : Heap} {ad : List Ad}
noncomputable abbrev TabR (ad : List Ad) : Int × Nat → Int × Value → Prop := fun p q => q.1 = p.1 ∧ ∃ a,ad[p.2]? = some a ∧ q.2 = .ref a.adr
theorem tab_value {c : Int} {tr : List (Int × Nat)} {kvs : List (Int × Value)} (x : All2 (TabR ad) tr kvs) :
  (∀ j,lookI c tr = some j → ∃ a,ad[j]? = some a ∧ valueAt kvs c = some (.ref a.adr)) ∧ (lookI c tr = none → valueAt kvs c = none) := by
 induction x with
 | nil => exact ⟨fun j h => none_some h,fun _ => rfl⟩
 | @cons p q _ _ r _ ih =>
  obtain ⟨e1,a,e2,e3⟩ := r
  unfold valueAt at ih ⊢
  rw [List.find?_cons]
  show (∀ j,(if p.1 = c then some p.2 else lookI c _) = some j → _) ∧ ((if p.1 = c then some p.2 else lookI c _) = none → _)
  by_cases hd : q.1 = c
  ·rw [if_pos (e1.symm.trans hd),decide_eq_true hd]
   exact ⟨fun j h => ⟨a,Option.some.inj h ▸ e2,congrArg some e3⟩,fun h => by cases h⟩
  ·rw [if_neg (fun h => hd (e1.trans h)),decide_eq_false hd]
   exact ih
end
section
variable {C : Cx} {R : Nat} {A : Around} {env : Env} {m : Str → Option Value} {s s' : Shared} {E : Value → Shared → Prop} {kt dx : Addr} {T : TS} {ad : List Ad} {fin : Bool}
theorem KtAt.keep {h h' : Heap} {z c f : Value} (K : KtAt h kt dx z c f) (hk : ∀ o,h.get? kt = some o → h'.get? kt = some o) (hd : ∀ o,h.get? dx = some o → h'.get? dx = some o) : KtAt h' kt dx z c f :=
 ⟨let ⟨o,e,r⟩ := K.ob; ⟨o,hk o e,r⟩,let ⟨es,n,e,r⟩ := K.dc; ⟨es,n,hd _ e,r⟩⟩
theorem Live.keep {h h' : Heap} (L : Live C h kt dx T ad fin) (hk : ∀ b o,b ∈ adAll ad ∨ b = kt ∨ b = dx → h.get? b = some o → h'.get? b = some o) (ht : ∀ b o vs n,h.get? b = some o → o.cls = .type "tuple" → o.data = .seq vs n → h'.get? b = some o) : Live C h' kt dx T ad fin :=
 ⟨L.th.keep (fun b hb o e => hk b o (.inl hb) e) ht,let ⟨a,h1,t,K⟩ := L.z; ⟨a,h1,t,K.keep (fun o e => hk kt o (.inr (.inl rfl)) e) fun o e => hk dx o (.inr (.inr rfl)) e⟩,L.hd,L.lo⟩
end
end
section
section
open SetTable
noncomputable def adv (M : Nat) (p : Probe) : Probe :=
 if p.more > 0 then { p with j := p.j + 1,more := p.more - 1 } else { p with j := (leap M p.i p.perturb).1,more := runEnd M (leap M p.i p.perturb).1 - (leap M p.i p.perturb).1,i := (leap M p.i p.perturb).1,perturb := (leap M p.i p.perturb).2 }
noncomputable def advN (M : Nat) : Nat → Probe → Probe
 | 0,p => p
 | n + 1,p => advN M n (adv M p)
theorem advN_add {M : Nat} : ∀ (a b : Nat) (p : Probe),advN M (a + b) p = advN M b (advN M a p)
 | 0,b,p => by rw [Nat.zero_add]; rfl
 | a + 1,b,p => by rw [Nat.succ_add]; exact advN_add a b (adv M p)
theorem advN_succ {M n : Nat} {p : Probe} : advN M (n + 1) p = adv M (advN M n p) := advN_add n 1 p
theorem adv_run {M : Nat} : ∀ (d : Nat) (p : Probe),d ≤ p.more → advN M d p = { p with j := p.j + d,more := p.more - d }
 | 0,p,_ => rfl
 | d + 1,p,h => by
  show advN M d (adv M p) = _
  have hp : p.more > 0 := Nat.lt_of_lt_of_le (Nat.succ_pos d) h
  have e : adv M p = { p with j := p.j + 1,more := p.more - 1 } := if_pos hp
  rw [e,adv_run d _ (Nat.le_sub_of_add_le h)]
  show Probe.mk (p.j + 1 + d) (p.more - 1 - d) p.i p.perturb p.dummy = Probe.mk (p.j + (d + 1)) (p.more - (d + 1)) p.i p.perturb p.dummy
  rw [Nat.add_assoc,Nat.add_comm 1 d,Nat.sub_sub,Nat.add_comm 1 d]
noncomputable def lpS (M : Nat) (p : Probe) : Probe := { p with j := (leap M p.i p.perturb).1,more := runEnd M (leap M p.i p.perturb).1 - (leap M p.i p.perturb).1,i := (leap M p.i p.perturb).1,perturb := (leap M p.i p.perturb).2 }
theorem adv_leap {M : Nat} (p : Probe) : advN M (p.more + 1) p = lpS M p := by
 rw [advN_succ,adv_run _ p (Nat.le_refl _)]
 have h : ¬ p.more - p.more > 0 := by rw [Nat.sub_self]; exact Nat.lt_irrefl 0
 exact if_neg h
noncomputable def lpN (M : Nat) : Nat → Probe → Probe
 | 0,p => p
 | n + 1,p => lpS M (lpN M n p)
theorem runEnd_le {M i : Nat} : runEnd M i - i ≤ 9 := by
 unfold runEnd
 split
 ·rw [Nat.add_sub_cancel_left]; exact Nat.le_refl 9
 ·rw [Nat.sub_self]; exact Nat.zero_le 9
theorem lpN_at {M : Nat} {p : Probe} (h : p.more ≤ 9) : ∀ n,(lpN M n p).more ≤ 9 ∧ ∃ a,a ≤ 10 * n ∧ advN M a p = lpN M n p
 | 0 => ⟨h,0,Nat.le_refl _,rfl⟩
 | n + 1 => by
  obtain ⟨h1,a,h2,h3⟩ := lpN_at h n
  refine ⟨runEnd_le,a + ((lpN M n p).more + 1),?_,?_⟩
  ·rw [Nat.mul_succ]; exact Nat.add_le_add h2 (Nat.succ_le_succ h1)
  ·rw [advN_add,h3,adv_leap]; rfl
theorem lpN_pert {M : Nat} {p : Probe} : ∀ n,(lpN M n p).perturb = p.perturb / 32 ^ n
 | 0 => by rw [Nat.pow_zero,Nat.div_one]; rfl
 | n + 1 => by
  show (lpN M n p).perturb / 32 = _
  rw [lpN_pert n,Nat.div_div_eq_div_mul,Nat.pow_succ]
theorem lpN_i {M : Nat} {p : Probe} (hM : p.i ≤ M) : ∀ n,(lpN M n p).i ≤ M
 | 0 => hM
 | n + 1 => Nat.le_of_lt_succ (Nat.mod_lt _ (Nat.succ_pos M))
theorem lpN_add {M : Nat} {p : Probe} (a : Nat) : ∀ n,lpN M (a + n) p = lpN M n (lpN M a p)
 | 0 => rfl
 | n + 1 => congrArg (lpS M) (lpN_add a n)
noncomputable def goes (M : Nat) : Nat → Nat → Nat
 | 0,i => i
 | n + 1,i => (goes M n i * 5 + 1) % (M + 1)
theorem lpN_goes {M : Nat} {p : Probe} (h : p.perturb = 0) : ∀ n,(lpN M n p).i = goes M n p.i
 | 0 => rfl
 | n + 1 => by
  show ((lpN M n p).i * 5 + 1 + (lpN M n p).perturb / 32) % (M + 1) = (goes M n p.i * 5 + 1) % (M + 1)
  rw [lpN_goes h n,lpN_pert,h,Nat.zero_div,Nat.zero_div,Nat.add_zero]
noncomputable def allGo (M : Nat) : Bool := (List.range (M + 1)).all fun i => (List.range (M + 1)).all fun j => (List.range (M + 1)).any fun n => goes M n i == j
theorem go7 : allGo 7 = true := by decide +kernel
theorem go31 : allGo 31 = true := by decide +kernel
theorem goes_all {M : Nat} (h : allGo M = true) {i j : Nat} (hi : i ≤ M) (hj : j ≤ M) : ∃ n,n ≤ M ∧ goes M n i = j := by
 have h1 := List.all_eq_true.mp (List.all_eq_true.mp h i (List.mem_range.mpr (Nat.lt_succ_of_le hi))) j (List.mem_range.mpr (Nat.lt_succ_of_le hj))
 obtain ⟨n,hn,e⟩ := List.any_eq_true.mp h1
 exact ⟨n,Nat.le_of_lt_succ (List.mem_range.mp hn),eq_of_beq e⟩
structure PrOk (M : Nat) (p : Probe) : Prop where
 i : p.i ≤ M
 m : p.more ≤ 9
 q : p.perturb < 2 ^ 64
 d : p.dummy = none
 j : p.j + p.more ≤ M
theorem run_le {M i : Nat} (h : i ≤ M) : i + (runEnd M i - i) ≤ M := by
 unfold runEnd
 split
 ·rw [Nat.add_sub_cancel_left]; assumption
 ·rw [Nat.sub_self]; exact h
theorem PrOk.adv {M : Nat} {p : Probe} (h : PrOk M p) : PrOk M (adv M p) := by
 unfold Mine.adv
 split
 ·rename_i hp
  exact ⟨h.i,Nat.le_trans (Nat.sub_le _ _) h.m,h.q,h.d,by show p.j + 1 + (p.more - 1) ≤ M; rw [Nat.add_assoc,Nat.add_sub_of_le hp]; exact h.j⟩
 ·have := Nat.le_of_lt_succ (Nat.mod_lt (p.i * 5 + 1 + p.perturb / 32) (Nat.succ_pos M))
  exact ⟨this,runEnd_le,Nat.lt_of_le_of_lt (Nat.div_le_self _ _) h.q,h.d,run_le this⟩
theorem PrOk.advN {M : Nat} : ∀ (n : Nat) {p : Probe},PrOk M p → PrOk M (advN M n p)
 | 0,_,h => h
 | n + 1,_,h => PrOk.advN n h.adv
theorem comes {M : Nat} (hM : allGo M = true) {p : Probe} (h : PrOk M p) {j : Nat} (hj : j ≤ M) : ∃ a,a < 10 * turns M ∧ (advN M a p).j = j := by
 have h0 : (lpN M 13 p).perturb = 0 := by
  rw [lpN_pert]
  exact Nat.div_eq_of_lt (Nat.lt_of_lt_of_le h.q (by decide))
 obtain ⟨n,hn,e⟩ := goes_all hM (lpN_i (p := p) h.i 13) hj
 have e2 : (lpN M (13 + n) p).i = j := by rw [lpN_add,lpN_goes h0,e]
 obtain ⟨_,a,ha,e3⟩ := lpN_at (M := M) h.m (13 + n)
 refine ⟨a,Nat.lt_of_le_of_lt ha (Nat.mul_lt_mul_of_pos_left ?_ (by decide)),?_⟩
 ·show 13 + n < M + 15
  rw [Nat.add_comm]; exact Nat.add_lt_add_of_le_of_lt hn (by decide)
 ·rw [e3,← e2,Nat.add_comm]
  cases n <;> rfl
theorem bits_lt (h : Int) : bits h < 2 ^ 64 := by
 unfold bits
 have := Int.emod_lt_of_pos h (by decide : (0 : Int) < 2 ^ 64)
 have := Int.emod_nonneg h (by decide : (2 ^ 64 : Int) ≠ 0)
 omega
noncomputable def start (M : Nat) (h : Int) : Probe := { j := bits h % (M + 1),more := runEnd M (bits h % (M + 1)) - bits h % (M + 1),i := bits h % (M + 1),perturb := bits h,dummy := none }
theorem start_ok {M : Nat} {h : Int} : PrOk M (start M h) := ⟨Nat.le_of_lt_succ (Nat.mod_lt _ (Nat.succ_pos M)),runEnd_le,bits_lt h,rfl,run_le (Nat.le_of_lt_succ (Nat.mod_lt _ (Nat.succ_pos M)))⟩
noncomputable def sq (M : Nat) (h : Int) (k : Nat) : Nat := (advN M k (start M h)).j
end
end
section
section
open SetTable
theorem mid_lt {lo hi : Nat} (h : lo < hi) : lo ≤ (lo + hi) / 2 ∧ (lo + hi) / 2 < hi := by omega
theorem below_go {xs : Array Nat} {j : Nat} (up : ∀ i k,i < k → k < xs.size → xs.getD i 0 < xs.getD k 0) : ∀ (f lo hi : Nat),hi ≤ lo + f → lo ≤ hi → hi ≤ xs.size → (∀ i,i < lo → xs.getD i 0 < j) → (∀ i,hi ≤ i → i < xs.size → j ≤ xs.getD i 0) →
  below.go xs j f lo hi ≤ xs.size ∧ (∀ i,i < below.go xs j f lo hi → xs.getD i 0 < j) ∧ ∀ i,below.go xs j f lo hi ≤ i → i < xs.size → j ≤ xs.getD i 0
 | 0,lo,hi,h1,h2,h3,h4,h5 => by
  have e : lo = hi := Nat.le_antisymm h2 h1
  exact ⟨e ▸ h3,h4,fun i hi => h5 i (e ▸ hi)⟩
 | f + 1,lo,hi,h1,h2,h3,h4,h5 => by
  unfold below.go
  by_cases c : lo < hi
  ·obtain ⟨m1,m2⟩ := mid_lt c
   rw [if_pos c]
   generalize (lo + hi) / 2 = m at m1 m2
   dsimp only
   rw [show xs.getD m j = xs.getD m 0 by rw [Array.getD_eq_getD_getElem?,Array.getD_eq_getD_getElem?,Array.getElem?_eq_getElem (Nat.lt_of_lt_of_le m2 h3)]; rfl]
   by_cases q : xs.getD m 0 < j
   ·rw [if_pos q]
    refine below_go up f (m + 1) hi (Nat.le_trans h1 (by rw [Nat.add_assoc,Nat.add_comm 1 f]; exact Nat.add_le_add_right m1 _)) m2 h3 (fun i hi => ?_) h5
    rcases Nat.lt_or_ge i m with r | r
    ·exact Nat.lt_trans (up i m r (Nat.lt_of_lt_of_le m2 h3)) q
    ·rw [Nat.le_antisymm (Nat.le_of_lt_succ hi) r]; exact q
   ·rw [if_neg q]
    refine below_go up f lo m (Nat.le_of_lt_succ (Nat.lt_of_lt_of_le m2 h1)) m1 (Nat.le_trans (Nat.le_of_lt m2) h3) h4 fun i hi hs => ?_
    rcases Nat.lt_or_ge m i with r | r
    ·exact Nat.le_trans (Nat.le_of_not_lt q) (Nat.le_of_lt (up m i r hs))
    ·rw [Nat.le_antisymm r hi]; exact Nat.le_of_not_lt q
  ·rw [if_neg c]
   have e : lo = hi := Nat.le_antisymm h2 (Nat.le_of_not_lt c)
   exact ⟨e ▸ h3,h4,fun i hi => h5 i (e ▸ hi)⟩
theorem below_split {P : List Nat} (up : P.Pairwise (· < ·)) (j : Nat) : ∃ A B,P = A ++ B ∧ below P.toArray j = A.length ∧ (∀ a ∈ A,a < j) ∧ ∀ b ∈ B,j ≤ b := by
 have g : ∀ i (h : i < P.length),P.toArray.getD i 0 = P[i] := fun i h => by
  rw [Array.getD_eq_getD_getElem?,List.getElem?_toArray,List.getElem?_eq_getElem h]; rfl
 have u : ∀ i k,i < k → k < P.toArray.size → P.toArray.getD i 0 < P.toArray.getD k 0 := fun i k h1 h2 => by
  rw [g i (Nat.lt_trans h1 h2),g k h2]
  exact List.pairwise_iff_getElem.mp up i k _ _ h1
 obtain ⟨b1,b2,b3⟩ := below_go (j := j) u P.toArray.size 0 P.toArray.size (by rw [Nat.zero_add]; exact Nat.le_refl _) (Nat.zero_le _) (Nat.le_refl _) (fun i h => absurd h (Nat.not_lt_zero i)) fun i h1 h2 => absurd h2 (Nat.not_lt.mpr h1)
 have b1 : below P.toArray j ≤ P.length := b1
 refine ⟨P.take (below P.toArray j),P.drop (below P.toArray j),(List.take_append_drop ..).symm,by rw [List.length_take,Nat.min_eq_left b1],fun a h => ?_,fun b h => ?_⟩
 ·obtain ⟨i,hi,rfl⟩ := List.mem_iff_getElem.mp h
  rw [List.length_take] at hi
  have h2 := Nat.lt_of_lt_of_le hi (Nat.min_le_right _ _)
  rw [List.getElem_take,← g i h2]
  exact b2 i (Nat.lt_of_lt_of_le hi (Nat.min_le_left _ _))
 ·obtain ⟨i,hi,rfl⟩ := List.mem_iff_getElem.mp h
  rw [List.length_drop] at hi
  have h2 : below P.toArray j + i < P.length := Nat.add_lt_of_lt_sub' hi
  rw [List.getElem_drop,← g _ h2]
  exact b3 _ (Nat.le_add_right _ _) h2
variable {β : Type}
structure TI (M : Nat) (t : SetTable) (L : List (Nat × Int × β)) : Prop where
 mask : t.mask = M
 dm : t.dummies = #[]
 pl : t.place = (L.map (·.1)).toArray
 up : (L.map (·.1)).Pairwise (· < ·)
 le : ∀ e ∈ L,e.1 ≤ M
 path : ∀ e ∈ L,∃ k,sq M e.2.1 k = e.1 ∧ ∀ i,i < k → sq M e.2.1 i ∈ L.map (·.1)
variable {M : Nat} {t : SetTable} {L L1 L2 : List (Nat × Int × β)} {j : Nat} {e : Nat × Int × β} {h : Int} {x : β}
theorem pair_app {P Q : List Nat} (u : (P ++ j :: Q).Pairwise (· < ·)) : (∀ a ∈ P,a < j) ∧ ∀ b ∈ Q,j < b := by
 rw [List.pairwise_append,List.pairwise_cons] at u
 exact ⟨fun a ha => u.2.2 a ha j List.mem_cons_self,u.2.1.1⟩
theorem split_at {A B P Q : List Nat} (e : A ++ B = P ++ j :: Q) (hA : ∀ a ∈ A,a < j) (hB : ∀ b ∈ B,j ≤ b) (hP : ∀ a ∈ P,a < j) : A = P ∧ B = j :: Q := by
 rcases List.append_eq_append_iff.mp e with ⟨C,rfl,h2⟩ | ⟨C,rfl,h2⟩
 ·cases C with
  | nil => rw [List.append_nil]; exact ⟨rfl,h2⟩
  | cons c C =>
   refine absurd (hP c (List.mem_append_right _ List.mem_cons_self)) (Nat.not_lt.mpr (hB c ?_))
   rw [h2]; exact List.mem_cons_self
 ·cases C with
  | nil => rw [List.append_nil]; exact ⟨rfl,h2.symm⟩
  | cons c C =>
   have := (List.cons.inj h2).1
   exact absurd (hA c (List.mem_append_right _ List.mem_cons_self)) (by rw [← this]; exact Nat.lt_irrefl _)
theorem TI.live (T : TI M t (L1 ++ e :: L2)) : t.slot e.1 = .live L1.length := by
 have up := T.up
 rw [List.map_append,List.map_cons] at up
 obtain ⟨A,B,h1,h2,h3,h4⟩ := below_split up e.1
 obtain ⟨rfl,rfl⟩ := split_at h1.symm h3 h4 (pair_app up).1
 unfold SetTable.slot
 rw [T.pl,List.map_append,List.map_cons,h2,List.length_map]
 show (if (_ == some e.1) = true then _ else _) = _
 rw [if_pos]
 rw [List.getElem?_toArray,List.getElem?_append_right (by rw [List.length_map]; exact Nat.le_refl _),List.length_map,Nat.sub_self]
 exact beq_self_eq_true _
theorem TI.empty (T : TI M t L) (hj : j ∉ L.map (·.1)) : t.slot j = .empty := by
 unfold SetTable.slot
 rw [T.pl,T.dm]
 show (if (_ == some j) = true then _ else _) = _
 rw [if_neg]
 ·rfl
 ·intro q
  have q := eq_of_beq q
  rw [List.getElem?_toArray] at q
  exact hj (List.mem_of_getElem? q)
theorem TI.put (T : TI M t L) (hj : j ∉ L.map (·.1)) (hM : j ≤ M) (hp : ∃ k,sq M h k = j ∧ ∀ i,i < k → sq M h i ∈ L.map (·.1)) : ∃ L1 L2,L = L1 ++ L2 ∧ TI M (t.put j).1 (L1 ++ (j,h,x) :: L2) ∧ (t.put j).2 = L1.length ∧ (t.put j).1.led = t.led ∧ (t.put j).1.moves = t.moves := by
 obtain ⟨A,B,h1,h2,h3,h4⟩ := below_split T.up j
 obtain ⟨L1,L2,rfl,rfl,rfl⟩ := List.map_eq_append_iff.mp h1
 have hb : ∀ b ∈ L2.map (·.1),j < b := fun b hb => Nat.lt_of_le_of_ne (h4 b hb) fun q => hj (by rw [q,List.map_append]; exact List.mem_append_right _ hb)
 have h2 : below (List.map (·.1) (L1 ++ L2)).toArray j = L1.length := by rw [h2,List.length_map]
 have hpl : t.place = (List.map (·.1) (L1 ++ L2)).toArray := T.pl
 have sub : ∀ {y},y ∈ (L1 ++ L2).map (·.1) → y ∈ (L1 ++ (j,h,x) :: L2).map (·.1) := fun hy => by
  rw [List.map_append] at hy ⊢
  exact (List.mem_append.mp hy).elim (List.mem_append_left _) fun q => List.mem_append_right _ (List.mem_cons_of_mem _ q)
 refine ⟨L1,L2,rfl,⟨T.mask,?_,?_,?_,fun e he => ?_,fun e he => ?_⟩,?_,rfl,rfl⟩
 ·show (if SetTable.has t.dummies j = true then _ else t.dummies) = _
  rw [T.dm]; rfl
 ·show SetTable.insertAt t.place (below t.place j) j = _
  rw [hpl,h2,List.map_append,List.map_append,List.map_cons]
  unfold SetTable.insertAt
  apply Array.toList_inj.mp
  rw [Array.toList_append,Array.toList_push,Array.toList_extract,Array.toList_extract,List.extract_eq_take_drop,List.extract_eq_take_drop,List.drop_zero,Nat.sub_zero]
  show List.take L1.length (L1.map (·.1) ++ L2.map (·.1)) ++ [j] ++ List.take _ (List.drop L1.length (L1.map (·.1) ++ L2.map (·.1))) = L1.map (·.1) ++ j :: L2.map (·.1)
  rw [List.take_left' (List.length_map ..),List.drop_left' (List.length_map ..),List.take_of_length_le,List.append_assoc]
  ·rfl
  ·rw [List.size_toArray,List.length_append,List.length_map,List.length_map,Nat.add_sub_cancel_left]; exact Nat.le_refl _
 ·have up := T.up
  rw [List.map_append,List.pairwise_append] at up
  rw [List.map_append,List.map_cons,List.pairwise_append,List.pairwise_cons]
  exact ⟨up.1,⟨hb,up.2.1⟩,fun a ha b hb' => (List.mem_cons.mp hb').elim (fun q => q ▸ h3 a ha) (up.2.2 a ha b)⟩
 ·rcases List.mem_append.mp he with q | q
  ·exact T.le e (List.mem_append_left _ q)
  ·rcases List.mem_cons.mp q with rfl | q
   ·exact hM
   ·exact T.le e (List.mem_append_right _ q)
 ·have old : e ∈ L1 ++ L2 → ∃ k,sq M e.2.1 k = e.1 ∧ ∀ i,i < k → sq M e.2.1 i ∈ (L1 ++ (j,h,x) :: L2).map (·.1) := fun q => (T.path e q).imp fun k r => ⟨r.1,fun i hi => sub (r.2 i hi)⟩
  rcases List.mem_append.mp he with q | q
  ·exact old (List.mem_append_left _ q)
  ·rcases List.mem_cons.mp q with rfl | q
   ·exact hp.imp fun k r => ⟨r.1,fun i hi => sub (r.2 i hi)⟩
   ·exact old (List.mem_append_right _ q)
 ·show below t.place j = _
  rw [hpl,h2]
theorem ins_es {es : Array (Int × β)} (he : es = ((L1 ++ L2).map (·.2)).toArray) : SetTable.insertAt es L1.length (h,x) = ((L1 ++ (j,h,x) :: L2).map (·.2)).toArray := by
 subst he
 unfold SetTable.insertAt
 apply Array.toList_inj.mp
 rw [Array.toList_append,Array.toList_push,Array.toList_extract,Array.toList_extract,List.extract_eq_take_drop,List.extract_eq_take_drop,List.drop_zero,Nat.sub_zero,List.map_append,List.map_append,List.map_cons]
 show List.take L1.length (L1.map (·.2) ++ L2.map (·.2)) ++ [(h,x)] ++ List.take _ (List.drop L1.length (L1.map (·.2) ++ L2.map (·.2))) = L1.map (·.2) ++ (h,x) :: L2.map (·.2)
 rw [List.take_left' (List.length_map ..),List.drop_left' (List.length_map ..),List.take_of_length_le,List.append_assoc]
 ·rfl
 ·rw [List.size_toArray,List.length_append,List.length_map,List.length_map,Nat.add_sub_cancel_left]; exact Nat.le_refl _
theorem adv_dummy {p : Probe} : (adv M p).dummy = p.dummy := by
 unfold adv
 split <;> rfl
inductive MetAt (L : List (Nat × Int × β)) (M : Nat) (h : Int) (p : Probe) (m : Nat) : Option Met → Prop
 | empty (hj : (advN M m p).j ∉ L.map (·.1)) : MetAt L M h p m (some (.empty (advN M m p).j none))
 | cand (i : Nat) (e : Nat × Int × β) (hi : L[i]? = some e) (hj : e.1 = (advN M m p).j) (hh : e.2.1 = h) : MetAt L M h p m (some (.candidate (advN M m p).j i (advN M (m + 1) p)))
theorem MetAt.next {p : Probe} {m : Nat} {r : Option Met} (h3 : MetAt L M h (adv M p) m r) : MetAt L M h p (m + 1) r := by
 cases h3 with
 | empty hj => exact .empty hj
 | cand i e hi hj hh => exact .cand i e hi hj hh
theorem go_met (T : TI M t L) {hashAt : Nat → Int} (hh : ∀ i e,L[i]? = some e → hashAt i = e.2.1) : ∀ (f : Nat) (p : Probe) (n : Nat),p.dummy = none → n < f → (advN M n p).j ∉ L.map (·.1) →
  ∃ m,m ≤ n ∧ (∀ i,i < m → ∃ e ∈ L,e.1 = (advN M i p).j ∧ e.2.1 ≠ h) ∧ MetAt L M h p m (probe.go t hashAt h f p)
 | 0,p,n,hd,hn,hj => absurd hn (Nat.not_lt_zero n)
 | f + 1,p,n,hd,hn,hj => by
  have ea : ∀ p,t.advance p = adv M p := fun p => by rw [← T.mask]; rfl
  unfold probe.go
  by_cases q : p.j ∈ L.map (·.1)
  ·obtain ⟨e,he,ej⟩ := List.mem_map.mp q
   obtain ⟨L1,L2,eL⟩ := List.append_of_mem he
   have hs : t.slot p.j = .live L1.length := ej ▸ (show TI M t (L1 ++ e :: L2) from eL ▸ T).live
   rw [hs]
   have hi : L[L1.length]? = some e := by rw [eL,List.getElem?_append_right (Nat.le_refl _),Nat.sub_self]; rfl
   show ∃ m,_ ∧ _ ∧ MetAt _ M h p m (if (hashAt L1.length == h) = true then _ else _)
   rw [hh _ _ hi]
   by_cases c : e.2.1 = h
   ·rw [if_pos (by rw [c]; exact beq_self_eq_true _),ea]
    exact ⟨0,Nat.zero_le _,fun i hi => absurd hi (Nat.not_lt_zero i),MetAt.cand (m := 0) _ e hi (by exact ej) c⟩
   ·rw [if_neg (fun q => c (eq_of_beq q)),ea]
    cases n with
    | zero => exact absurd q hj
    | succ n =>
     obtain ⟨m,h1,h2,h3⟩ := go_met T hh f (adv M p) n (adv_dummy.trans hd) (Nat.lt_of_succ_lt_succ hn) hj
     refine ⟨m + 1,Nat.succ_le_succ h1,fun i hi => ?_,?_⟩
     ·cases i with
      | zero => exact ⟨e,he,ej,c⟩
      | succ i => exact h2 i (Nat.lt_of_succ_lt_succ hi)
     ·exact h3.next
  ·rw [T.empty q]
   show ∃ m,_ ∧ _ ∧ MetAt _ M h p m (some (.empty p.j p.dummy))
   rw [hd]
   exact ⟨0,Nat.zero_le _,fun i hi => absurd hi (Nat.not_lt_zero i),MetAt.empty (m := 0) (by exact q)⟩
theorem all_len : ∀ (n : Nat) (l : List Nat),(∀ j,j < n → j ∈ l) → n ≤ l.length
 | 0,_,_ => Nat.zero_le _
 | n + 1,l,h => by
  have h1 := h n (Nat.lt_succ_self n)
  have := all_len n (l.erase n) fun j hj => (List.mem_erase_of_ne (Nat.ne_of_lt hj)).mpr (h j (Nat.lt_succ_of_lt hj))
  rw [List.length_erase_of_mem h1] at this
  exact Nat.succ_le_of_lt (Nat.lt_of_le_of_lt this (Nat.sub_lt (List.length_pos_of_mem h1) Nat.one_pos))
theorem TI.room (T : TI M t L) (hM : allGo M = true) (hl : L.length ≤ M) {p : Probe} (hp : PrOk M p) : ∃ n,n < 10 * turns M ∧ (advN M n p).j ∉ L.map (·.1) := by
 obtain ⟨j,h1,h2⟩ : ∃ j,j ≤ M ∧ j ∉ L.map (·.1) := by
  apply Classical.byContradiction
  intro q
  have := all_len (M + 1) (L.map (·.1)) fun j hj => Classical.byContradiction fun r => q ⟨j,Nat.le_of_lt_succ hj,r⟩
  rw [List.length_map] at this
  exact absurd hl (Nat.not_le.mpr this)
 obtain ⟨a,ha,e⟩ := comes hM hp h1
 exact ⟨a,ha,e ▸ h2⟩
end
end
section
noncomputable abbrev iK (C : Cx) : KeyKind C.prog C.w Int := intKind C.prog C.w
noncomputable abbrev wK (C : Cx) : HeapKind C.prog C.w (List Int) := tupleKind (iK C)
theorem intKey {C : Cx} {c : Int} {t : Tok} : (intKind C.prog C.w).is c (.int c t) = true := by show Value.isInt c (.int c t) = true; simp [Value.isInt]
theorem intKey_inv {C : Cx} {c : Int} {v : Value} (h : (intKind C.prog C.w).is c v = true) : ∃ t,v = .int c t := by
 have h : Value.isInt c v = true := h
 cases v <;> simp [Value.isInt] at h
 subst h; exact ⟨_,rfl⟩
noncomputable abbrev Key (C : Cx) (h : Heap) (k : List Int) (a : Addr) : Prop := IsTupleKey (iK C) h k a
noncomputable abbrev TupKeep (h h' : Heap) : Prop := ∀ b o vs n,h.get? b = some o → o.cls = .type "tuple" → o.data = .seq vs n → h'.get? b = some o
section
variable {C : Cx} {h h' : Heap} {lv : Addr → Prop} {k : List Int} {a : Addr}
theorem Key.keep (t : TupKeep h h') : Key C h k a → Key C h' k a
 | ⟨o,vs,n,e,c,d,r⟩ => ⟨o,vs,n,t a o vs n e c d,c,d,r⟩
theorem key_items : ∀ {k : List Int} {vs : List Value},Rds h lv vs (k.map .int) → ItemsAre (iK C) k vs
 | [],vs,r => by
  cases vs with
  | nil => exact .nil
  | cons v vs => have := r.length; cases this
 | i :: k,vs,r => by
  cases vs with
  | nil => have := r.length; cases this
  | cons v vs =>
   obtain ⟨d,ds,e,r1,r2⟩ := r.cons_inv
   cases e
   obtain ⟨t,rfl⟩ := r1.int_inv
   exact .cons intKey (key_items r2)
theorem items_rds {k : List Int} {vs : List Value} (x : ItemsAre (iK C) k vs) : Rds h lv vs (k.map .int) := by
 induction x with
 | nil => exact .nil
 | cons x _ ih =>
  obtain ⟨t,rfl⟩ := intKey_inv x
  exact .cons rd_int ih
end
inductive DicA (C : Cx) (h : Heap) {α : Type} (R : α → Value → Prop) (D : List (List Int × α)) (o : Obj) : Prop
 | mk (ys : List (List Int × Addr × Value)) (es : Array DictEntry) (ep : Nat) (x : o.ExactDict) (d : o.data = .dict es ep) (e : es.toList = ys.map (entryOfKey (wK C))) (k : ∀ y ∈ ys,Key C h y.1 y.2.1) (nd : (ys.map (·.1)).Nodup) (al : All2 (fun p q => p.1 = q.1 ∧ R p.2 q.2.2) D ys)
section
variable {C : Cx} {h h' : Heap} {α : Type} {R R' : α → Value → Prop} {D : List (List Int × α)} {o : Obj}
theorem DicA.cls (x : DicA C h R D o) : o.cls = .type "dict" := x.casesOn fun _ _ _ x _ _ _ _ _ => x.1
theorem DicA.solid (x : DicA C h R D o) : Solid o := x.casesOn fun _ _ _ x d _ _ _ _ => .dict x.1 d
theorem DicA.mono (t : TupKeep h h') (f : ∀ a w,R a w → R' a w) (x : DicA C h R D o) : DicA C h' R' D o := x.casesOn fun ys es ep x d e k nd al => ⟨ys,es,ep,x,d,e,fun y m => Key.keep t (k y m),nd,al.imp fun p q r => ⟨r.1,f _ _ r.2⟩⟩
end
section
open SetTable
noncomputable def Rmo (M n : Nat) : Prop := (M = 7 ∧ n ≤ 4) ∨ (M = 31 ∧ n ≤ 18)
theorem Rmo.go {M n : Nat} (h : Rmo M n) : allGo M = true := h.elim (fun e => e.1 ▸ go7) fun e => e.1 ▸ go31
theorem Rmo.le {M n : Nat} (h : Rmo M n) : n ≤ M := h.elim (fun e => e.1 ▸ Nat.le_trans e.2 (by decide)) fun e => e.1 ▸ Nat.le_trans e.2 (by decide)
theorem Rmo.odd {M n : Nat} {t : SetTable} (h : Rmo M n) (e : t.mask = M) : t.gaveWay = false := by
 unfold SetTable.gaveWay
 rw [e]
 exact h.elim (fun e => e.1 ▸ rfl) fun e => e.1 ▸ rfl
inductive TSet (C : Cx) (h : Heap) (l : List (List Int)) (n : Nat) (o : Obj) : Prop
 | mk (M : Nat) (t : SetTable) (L : List (Nat × Int × Value)) (es : Array (Int × Value)) (ep : Nat) (ln : L.length = n) (rm : Rmo M n) (x : o.ExactSet) (d : o.data = .set es ep t) (e : es = (L.map (·.2)).toArray) (T : TI M t L) (k : ∀ e ∈ L,∃ k a,e.2 = (tupleKeyHash (iK C) k,.ref a) ∧ Key C h k a ∧ k ∈ l) (m : ∀ k ∈ l,∃ e ∈ L,∃ a,e.2 = (tupleKeyHash (iK C) k,.ref a) ∧ Key C h k a)
variable {C : Cx} {h h' : Heap} {l : List (List Int)} {n : Nat} {o : Obj}
theorem TSet.ex (x : TSet C h l n o) : o.ExactSet := x.casesOn fun _ _ _ _ _ _ _ x _ _ _ _ _ => x
theorem TSet.solid (x : TSet C h l n o) : Solid o := x.casesOn fun _ _ _ _ _ _ _ x d _ _ _ _ => ⟨fun q => absurd (Value.type.inj (x.1.symm.trans q)) (by decide),fun _ q => Data.noConfusion (d.symm.trans q),fun _ q => Data.noConfusion (d.symm.trans q)⟩
theorem TSet.mono (t : TupKeep h h') (x : TSet C h l n o) : TSet C h' l n o := x.casesOn fun M tb L es ep ln rm x d e T k m => ⟨M,tb,L,es,ep,ln,rm,x,d,e,T,fun e he => let ⟨k,a,e1,e2,e3⟩ := k e he; ⟨k,a,e1,Key.keep t e2,e3⟩,fun k hk => let ⟨e,h1,a,e1,e2⟩ := m k hk; ⟨e,h1,a,e1,Key.keep t e2⟩⟩
end
end
section
noncomputable abbrev Nm := List (Str × NameKind)
noncomputable def isLC (names : Nm) (x : Str) : Bool := match names.lookup x with
 | some .local | some .cell => true
 | _ => false
noncomputable def isGl (names : Nm) (x : Str) : Bool := match names.lookup x with
 | some .globalImplicit => okName x
 | _ => false
noncomputable def isBn (x : Str) : Bool := (["len","range","tuple","list","max","min","set","enumerate","KeyError","sorted"] : List Str).contains x
structure Lc where
 lv : Addr → Prop
 kt : Addr
 dx : Addr
 ad : List Ad
 pl : Str → Addr
inductive V where
 | dat (d : PyData)
 | nd (i : Nat)
 | tab (i : Nat)
 | kt
 | raw (v : Value)
 | dic (D : List (List Int × PyData))
 | set (l : List (List Int))
inductive Ent where
 | val (v : V)
 | live (l : List PyData)
 | nds (l : List Nat)
 | nats (l : List Nat)
 | dic (D : List (List Int × V))
 | tr (T : TS) (fin : Bool)
noncomputable def Ent.isL : Ent → Prop
 | .live _ | .nds _ | .nats _ | .dic _ => True
 | _ => False
noncomputable abbrev StE := Str → Option Ent
noncomputable def setE (E : StE) (x : Str) (n : Ent) : StE := fun y => if y = x then some n else E y
inductive Kd where
 | law | meth | gen | rd
noncomputable def Kd.rw : Kd → Bool
 | .law | .meth => true
 | _ => false
noncomputable def Kd.fx : Kd → Bool
 | .meth | .rd => true
 | _ => false
structure Pr where
 C : Cx
 R : Nat
 names : Nm
 un : Bool
 kd : Kd
structure Fx where
 A : Around
 env : Env
 own : List (Str × Addr)
 cl : List (Str × Addr)
 s₀ : Shared
 lv₀ : Addr → Prop
 Z : Addr → Prop
 lvc : Addr → Prop
 zb : Lc
noncomputable def PlT (kt dx : Addr) (ad : List Ad) (b : Addr) : Prop := b ∈ adAll ad ∨ b = kt ∨ b = dx
noncomputable def lobj (vs : List Value) (n : Nat) : Obj := { cls := .type "list",data := .seq vs.toArray n }
noncomputable def SetIs (C : Cx) (o : Obj) (l : List Nat) : Prop := Obj.SetObjOf (intKind C.prog C.w) o (fun k => decide (∃ j ∈ l,k = (j : Int))) l.length
noncomputable def NodeV (ad : List Ad) (j : Nat) (v : Value) : Prop := ∃ a,ad[j]? = some a ∧ v = .ref a.adr
noncomputable def VR (C : Cx) (h : Heap) (z : Lc) : V → Value → Prop
 | .dat d,v => Rd h z.lv v d
 | .nd i,v => NodeV z.ad i v
 | .tab i,v => ∃ a,z.ad[i]? = some a ∧ v = .ref a.tab
 | .kt,v => v = .ref z.kt
 | .raw w,v => v = w
 | .dic D,v => ∃ a o,v = .ref a ∧ C.lo ≤ a ∧ h.get? a = some o ∧ ¬ z.lv a ∧ DicA C h (fun d w => Rd h z.lv w d) D o
 | .set l,v => ∃ a o n,v = .ref a ∧ h.get? a = some o ∧ ¬ z.lv a ∧ TSet C h l n o
inductive Slot (env : Env) (h : Heap) (x : Str) (w : Value) : Prop
 | loc (m : Str → Option Value) (k : env.kindOf x = some .local) (o : okName x = true) (n : h.Ns env.locals m) (e : m x = some w)
 | cell (c : Addr) (k : env.kindOf x = some .cell ∨ env.kindOf x = some .free) (o : okName x = true) (l : env.cells.lookup x = some c) (e : h.IsCell c (some w))
noncomputable def LV (P : Pr) (h : Heap) (z : Lc) : Ent → Obj → Prop
 | .live l,o => ∃ vs n,o = lobj vs n ∧ Rds h z.lv vs l
 | .nds l,o => ∃ vs n,o = lobj vs n ∧ All2 (NodeV z.ad) l vs
 | .nats l,o => SetIs P.C o l
 | .dic D,o => P.kd = .rd ∧ DicA P.C h (VR P.C h z) D o
 | _,_ => False
structure Wb (P : Pr) (f : Fx) (a : Addr) : Prop where
 h₀ : P.C.h₀.get? a = none
 z : f.Z a ∨ f.s₀.heap.get? a = none
structure Wl (P : Pr) (f : Fx) (a : Addr) : Prop extends Wb P f a where
 nc : ¬ f.lvc a
 nl : a ≠ f.env.locals
 lo : P.C.lo ≤ a
noncomputable def EV (P : Pr) (f : Fx) (z : Lc) (h : Heap) (x : Str) (e : Ent) (w : Value) : Prop := match e with
 | .val v => VR P.C h z v w
 | .tr _ _ => False
 | e => w = .ref (z.pl x) ∧ z.lv (z.pl x) ∧ Wl P f (z.pl x) ∧ ∃ o,h.get? (z.pl x) = some o ∧ LV P h z e o
structure TrW (P : Pr) (f : Fx) (z : Lc) (h : Heap) (T : TS) (fin : Bool) : Prop where
 L : Live P.C h z.kt z.dx T z.ad fin
 ob : ∀ (j : Nat) a,z.ad[j]? = some a → h.get? a.tab = T.ob[j]?
 nl : ¬ PlT z.kt z.dx z.ad f.env.locals
 wr : P.kd.rw = true → ∀ b,PlT z.kt z.dx z.ad b → z.lv b ∧ Wb P f b
 nc : P.kd = .law → ∀ b,PlT z.kt z.dx z.ad b → ¬ f.lvc b
 lc : P.kd = .rd → ∀ b,PlT z.kt z.dx z.ad b → f.lvc b
inductive EA (P : Pr) (f : Fx) (z : Lc) (h : Heap) (x : Str) : Ent → Prop
 | slot {e : Ent} (w : Value) (sl : Slot f.env h x w) (r : EV P f z h x e w) : EA P f z h x e
 | tr {T : TS} {fin : Bool} (k : x = ("" : Str)) (t : TrW P f z h T fin) : EA P f z h x (.tr T fin)
structure St (P : Pr) (f : Fx) (z : Lc) (E : StE) (s : Shared) : Prop where
 on : P.C.On s
 rm : Rm P.C P.R f.A s
 md : Md P.C.lo f.Z f.s₀ s
 lt : ∀ b,z.lv b → ∃ o,s.heap.get? b = some o ∧ ∀ vs,o.data ≠ .fields vs
 lb : ∀ b,z.lv b → f.lv₀ b ∨ f.s₀.heap.get? b = none
 ll : z.lv f.env.locals
 lu : ∀ b,f.lvc b → z.lv b
 ns : ∃ m,s.heap.Ns f.env.locals m
 oc : ∀ x c,(x,c) ∈ f.own ++ f.cl → ∃ w,s.heap.IsCell c w
 er : ∀ x e,E x = some e → EA P f z s.heap x e
 ij : ∀ x y e e',E x = some e → E y = some e' → e.isL → e'.isL → z.pl x = z.pl y → x = y
 zt : P.kd.fx = true → z.kt = f.zb.kt ∧ z.dx = f.zb.dx ∧ ∀ (i : Nat) a,f.zb.ad[i]? = some a → z.ad[i]? = some a
structure FOk (P : Pr) (f : Fx) : Prop where
 ok : EnvOk f.env
 st : ∀ x,isLC P.names x = true → f.env.kindOf x = some .local ∨ (f.env.kindOf x = some .cell ∧ (f.own.lookup x).isSome = true)
 gl : ∀ x,P.names.lookup x = some .globalImplicit → f.env.kindOf x = some .globalImplicit
 cf : ∀ x,P.names.lookup x = some .cell ∨ P.names.lookup x = some .free → (f.env.kindOf x = some .cell ∨ f.env.kindOf x = some .free) ∧ (f.env.cells.lookup x).isSome = true
 ce : f.env.cells = f.own ++ f.cl
 ap : f.own.Pairwise fun x y => x.2 ≠ y.2
 ot : ∀ x c,(x,c) ∈ f.own → ∀ y c',(y,c') ∈ f.cl → c ≠ c'
 lo : P.C.lo ≤ f.env.locals
 wl : Wb P f f.env.locals
 wo : ∀ x c,(x,c) ∈ f.own → Wb P f c
 zl : ∀ b o,f.Z b → f.s₀.heap.get? b = some o → (f.lv₀ b ∨ ¬ Solid o) ∧ (o.cls = .type "tuple" → ∀ vs n,o.data ≠ .seq vs n) ∧ ∀ vs,o.data ≠ .fields vs
 un : P.un = true → f.A.handled = none
 gb : ∀ x,isBn x = true → nsIn P.C.K mainGlobals x = some none
 tp : P.kd = .meth → f.env.frame = some f.env.locals ∧ ∃ l,f.A.frames = some (f.env :: l)
section
variable {C : Cx} {h h' : Heap} {kt dx : Addr} {T : TS} {ad : List Ad} {fin : Bool} {lv lv' : Addr → Prop}
structure TOb (o : Obj) : Prop where
 s : Solid o
 q : ∀ vs n,o.data ≠ .seq vs n
 c : o.cls ≠ .type "list" ∧ o.cls ≠ .type "set"
theorem TOb.dict {o : Obj} (h : o.cls = .type "dict") {es : Array DictEntry} {n : Nat} (d : o.data = .dict es n) : TOb o := ⟨.dict h d,fun _ _ q => Data.noConfusion (d.symm.trans q),by rw [h]; decide⟩
theorem TOb.inst {o : Obj} {c : Addr} (h : o.cls = .ref c) (d : o.data = .plain) : TOb o := ⟨⟨fun q => Value.noConfusion (h.symm.trans q),fun _ q => Data.noConfusion (d.symm.trans q),fun _ q => Data.noConfusion (d.symm.trans q)⟩,fun _ _ q => Data.noConfusion (d.symm.trans q),fun q => Value.noConfusion (h.symm.trans q),fun q => Value.noConfusion (h.symm.trans q)⟩
theorem Live.ob (L : Live C h kt dx T ad fin) {b : Addr} (p : PlT kt dx ad b) : ∃ o,h.get? b = some o ∧ TOb o := by
 rcases p with p | rfl | rfl
 ·unfold adAll at p
  rw [List.mem_flatMap] at p
  refine byG fun G9 k9 => ?_
  obtain ⟨a,ham,hb⟩ := p
  obtain ⟨i,hi,e⟩ := List.mem_iff_getElem.mp ham
  have ha : ad[i]? = some a := by rw [List.getElem?_eq_getElem hi,e]
  obtain ⟨⟨ox,O⟩,dc,kvs,⟨o,es,ep,eo,hx,hd,_⟩,_⟩ := L.th.nd i (T.T[i]'(by rw [← L.th.len]; exact hi)) a (List.getElem?_eq_getElem _) ha
  refine k9 ?_
  clear k9 G9
  simp only [List.mem_cons,List.not_mem_nil,or_false] at hb
  rcases hb with rfl | rfl | rfl
  ·exact ⟨ox,O.at',.inst O.cls O.data⟩
  ·exact ⟨_,dc,.dict rfl rfl⟩
  ·exact ⟨o,eo,.dict hx.1 hd⟩
 ·obtain ⟨_,_,_,K⟩ := L.z
  obtain ⟨o,e,c,_,d⟩ := K.ob
  exact ⟨o,e,.inst c d⟩
 ·obtain ⟨_,_,_,K⟩ := L.z
  obtain ⟨es,n,e,_⟩ := K.dc
  exact ⟨_,e,.dict rfl rfl⟩
end
structure Up (f : Fx) (s : Shared) (z : Lc) (s' : Shared) (z' : Lc) : Prop where
 st : Stable s.heap z.lv s'.heap z'.lv
 nw : ∀ b,z'.lv b → z.lv b ∨ (f.s₀.heap.get? b = none ∧ ∃ o,s'.heap.get? b = some o ∧ ∀ vs,o.data ≠ .fields vs)
 ol : ∀ b,z.lv b → z'.lv b
 kt : z'.kt = z.kt
 dx : z'.dx = z.dx
 ad : ∀ (i : Nat) a,z.ad[i]? = some a → z'.ad[i]? = some a
section
variable {P : Pr} {f : Fx} {z z' : Lc} {E E' : StE} {s s' : Shared}
theorem VR.gr {C : Cx} {h h' : Heap} (st : Stable h z.lv h' z'.lv) (kt : z'.kt = z.kt) (ad : ∀ (i : Nat) a,z.ad[i]? = some a → z'.ad[i]? = some a) {v : V} {w : Value} (r : VR C h z v w) : VR C h' z' v w := by
 cases v with
 | dat _ => exact Rd.mono st r
 | nd _ => obtain ⟨a,e,r⟩ := r; exact ⟨a,ad _ _ e,r⟩
 | tab _ => obtain ⟨a,e,r⟩ := r; exact ⟨a,ad _ _ e,r⟩
 | kt => exact Eq.trans r (by rw [kt])
 | raw _ => exact r
 | dic _ => obtain ⟨a,o,e,lo,h1,h2,r⟩ := r; exact ⟨a,o,e,lo,st.keep a o h1 h2 r.solid,fun l => h2 (st.live a o h1 r.solid l),r.mono st.tup fun _ _ => Rd.mono st⟩
 | set _ => obtain ⟨a,o,n,e,h1,h2,r⟩ := r; exact ⟨a,o,n,e,st.keep a o h1 h2 r.solid,fun l => h2 (st.live a o h1 r.solid l),r.mono st.tup⟩
theorem VR.up (u : Up f s z s' z') {v : V} {w : Value} (r : VR P.C s.heap z v w) : VR P.C s'.heap z' v w := r.gr u.st u.kt u.ad
theorem LV.up (u : Up f s z s' z') {e : Ent} {o : Obj} (r : LV P s.heap z e o) : LV P s'.heap z' e o := by
 cases e with
 | live _ => obtain ⟨vs,n,e,r⟩ := r; exact ⟨vs,n,e,r.mono u.st⟩
 | nds _ => obtain ⟨vs,n,e,r⟩ := r; exact ⟨vs,n,e,r.imp fun _ _ r => r.imp fun a q => ⟨u.ad _ _ q.1,q.2⟩⟩
 | dic _ => exact ⟨r.1,r.2.mono u.st.tup fun _ _ => VR.up u⟩
 | _ => exact r
theorem SetIs.cls {C : Cx} {o : Obj} {l : List Nat} (h : SetIs C o l) : o.cls = .type "set" ∧ (∀ vs,o.data ≠ .fields vs) ∧ (∀ v,o.data ≠ .cell v) ∧ (∀ vs n,o.data ≠ .seq vs n) ∧ ∀ vs n,o.data ≠ .dict vs n := by
 refine byG fun G9 k9 => ?_
 obtain ⟨⟨h1,_⟩,es,ep,t,hd,_⟩ := h
 refine k9 ?_
 clear k9 G9
 exact ⟨h1,by rw [hd]; simp,by rw [hd]; simp,by rw [hd]; simp,by rw [hd]; simp⟩
structure LObj (o : Obj) : Prop where
 c : o.cls = .type "list" ∨ o.cls = .type "set" ∨ o.cls = .type "dict"
 s : Solid o
theorem LObj.nt {o : Obj} (h : LObj o) : o.cls ≠ .type "tuple" := fun c => by
 have k : ∀ {n : String},n ≠ "tuple" → o.cls = .type n → False := fun hn q => hn (Value.type.inj (q.symm.trans c))
 exact h.c.elim (k (by decide)) fun q => q.elim (k (by decide)) (k (by decide))
theorem lobj_ob {vs : List Value} {n : Nat} : LObj (lobj vs n) := ⟨.inl rfl,.seq rfl rfl⟩
theorem LV.ob {h : Heap} {e : Ent} {o : Obj} (r : LV P h z e o) : LObj o := by
 cases e with
 | live _ => obtain ⟨vs,n,e,_⟩ := r; exact e ▸ lobj_ob
 | nds _ => obtain ⟨vs,n,e,_⟩ := r; exact e ▸ lobj_ob
 | nats _ => exact ⟨.inr (.inl r.cls.1),⟨fun q => absurd (Value.type.inj (r.cls.1.symm.trans q)) (by decide),r.cls.2.2.1,r.cls.2.1⟩⟩
 | dic _ => exact ⟨.inr (.inr r.2.cls),r.2.solid⟩
 | _ => exact r.elim
theorem LV.kd {h : Heap} {e : Ent} {o : Obj} (r : LV P h z e o) (c : o.cls = .type "dict") : P.kd = .rd := by
 cases e with
 | live _ => obtain ⟨vs,n,e,_⟩ := r; exact absurd (Value.type.inj ((congrArg Obj.cls e).symm.trans c)) (by decide)
 | nds _ => obtain ⟨vs,n,e,_⟩ := r; exact absurd (Value.type.inj ((congrArg Obj.cls e).symm.trans c)) (by decide)
 | nats _ => exact absurd (Value.type.inj (r.cls.1.symm.trans c)) (by decide)
 | dic _ => exact r.1
 | _ => exact r.elim
theorem TrW.ne {T : TS} {fin : Bool} {h h' : Heap} {z0 : Lc} {a : Addr} {e : Ent} {o : Obj} (t : TrW P f z h T fin) (w : Wl P f a) (r : LV P h' z0 e o) (g : h.get? a = some o) : ¬ PlT z.kt z.dx z.ad a := fun p => by
 obtain ⟨o',e',t'⟩ := t.L.ob p
 rw [get_eq g e'] at t'
 exact r.ob.c.elim t'.c.1 fun c => c.elim t'.c.2 fun c => w.nc (t.lc (r.kd c) a p)
theorem EV.live {h : Heap} {x : Str} {w : Value} : ∀ {e : Ent},e.isL → EV P f z h x e w → w = .ref (z.pl x) ∧ z.lv (z.pl x) ∧ Wl P f (z.pl x) ∧ ∃ o,h.get? (z.pl x) = some o ∧ LV P h z e o
 | .live _,_,r => r
 | .nds _,_,r => r
 | .nats _,_,r => r
 | .dic _,_,r => r
 | .val _,l,_ => l.elim
 | .tr _ _,l,_ => l.elim
theorem EV.of {h : Heap} {x : Str} {w : Value} {e : Ent} (l : e.isL) (r : w = .ref (z.pl x) ∧ z.lv (z.pl x) ∧ Wl P f (z.pl x) ∧ (∃ o,h.get? (z.pl x) = some o ∧ LV P h z e o)) : EV P f z h x e w := by
 cases e with
 | val _ => exact l.elim
 | tr _ _ => exact l.elim
 | _ => exact r
theorem EA.live {h : Heap} {x : Str} {e : Ent} (l : e.isL) (a : EA P f z h x e) : Slot f.env h x (.ref (z.pl x)) ∧ z.lv (z.pl x) ∧ Wl P f (z.pl x) ∧ ∃ o,h.get? (z.pl x) = some o ∧ LV P h z e o := by
 cases a with
 | slot w sl r => obtain ⟨rfl,q⟩ := r.live l; exact ⟨sl,q⟩
 | tr _ t => exact l.elim
theorem EA.tree {h : Heap} {x : Str} {T : TS} {fin : Bool} (a : EA P f z h x (.tr T fin)) : TrW P f z h T fin := by
 cases a with
 | slot w sl r => exact r.elim
 | tr _ t => exact t
theorem EA.key {h : Heap} {x : Str} {T : TS} {fin : Bool} (a : EA P f z h x (.tr T fin)) : x = ("" : Str) := by
 cases a with
 | slot w sl r => exact r.elim
 | tr k _ => exact k
theorem EA.val {h : Heap} {x : Str} {v : V} (a : EA P f z h x (.val v)) : ∃ w,Slot f.env h x w ∧ VR P.C h z v w := by
 cases a with
 | slot w sl r => exact ⟨w,sl,r⟩
theorem ev_mv {x : Str} {w : Value} {e : Ent} (u : Up f s z s' z') (r : w = .ref (z.pl x) ∧ z.lv (z.pl x) ∧ Wl P f (z.pl x) ∧ (∃ o,s.heap.get? (z.pl x) = some o ∧ LV P s.heap z e o)) (h : z'.pl x = z.pl x ∧ ∀ o,LObj o → s.heap.get? (z.pl x) = some o → s'.heap.get? (z.pl x) = some o) : w = .ref (z'.pl x) ∧ z'.lv (z'.pl x) ∧ Wl P f (z'.pl x) ∧ (∃ o,s'.heap.get? (z'.pl x) = some o ∧ LV P s'.heap z' e o) := by
 refine byG fun G9 k9 => ?_
 obtain ⟨r1,r2,r3,o,r4,r5⟩ := r
 refine k9 ?_
 clear k9 G9
 rw [h.1]
 exact ⟨r1,u.ol _ r2,r3,o,h.2 o r5.ob r4,r5.up u⟩
theorem EV.up {x : Str} {w : Value} (u : Up f s z s' z') {e : Ent} (r : EV P f z s.heap x e w) (h : e.isL → z'.pl x = z.pl x ∧ ∀ o,LObj o → s.heap.get? (z.pl x) = some o → s'.heap.get? (z.pl x) = some o) : EV P f z' s'.heap x e w := by
 cases e with
 | val _ => exact VR.up u (show VR P.C s.heap z _ w from r)
 | tr _ _ => exact r
 | _ => exact EV.of trivial (ev_mv u r (h trivial))
theorem TrW.up {T : TS} {fin : Bool} (t : TrW P f z s.heap T fin) (u : Up f s z s' z') (h1 : z'.dx = z.dx) (h2 : z'.ad = z.ad) (hk : ∀ b o,PlT z.kt z.dx z.ad b → TOb o → s.heap.get? b = some o → s'.heap.get? b = some o) : TrW P f z' s'.heap T fin := by
 obtain ⟨lv',kt',dx',ad',pl'⟩ := z'
 have h0 := u.kt
 dsimp only at h0 h1 h2
 subst h0; subst h1; subst h2
 have hk' : ∀ b o,PlT z.kt z.dx z.ad b → s.heap.get? b = some o → s'.heap.get? b = some o := fun b o p e => hk b o p (by obtain ⟨o',e',so⟩ := t.L.ob p; rw [e] at e'; cases e'; exact so) e
 exact ⟨t.L.keep hk' u.st.tup,fun j a e => by
  obtain ⟨o,e',_⟩ := t.L.ob (.inl (mem_adAll e).2.2)
  rw [← t.ob j a e,e']; exact hk' _ o (.inl (mem_adAll e).2.2) e',t.nl,fun hf b p => ⟨u.ol b (t.wr hf b p).1,(t.wr hf b p).2⟩,t.nc,t.lc⟩
theorem EA.up {x : Str} {e : Ent} (u : Up f s z s' z') (r : EA P f z s.heap x e) (sk : ∀ w,Slot f.env s.heap x w → Slot f.env s'.heap x w) (hl : e.isL → z'.pl x = z.pl x ∧ ∀ o,LObj o → s.heap.get? (z.pl x) = some o → s'.heap.get? (z.pl x) = some o)
  (ht : ∀ T fin,e = .tr T fin → z'.dx = z.dx ∧ z'.ad = z.ad ∧ ∀ b o,PlT z.kt z.dx z.ad b → TOb o → s.heap.get? b = some o → s'.heap.get? b = some o) : EA P f z' s'.heap x e := by
 cases r with
 | slot w sl r => exact .slot w (sk w sl) (r.up u hl)
 | tr k t => obtain ⟨h1,h2,h3⟩ := ht _ _ rfl; exact .tr k (t.up u h1 h2 h3)
theorem Slot.keep {env : Env} {h h' : Heap} {x : Str} {w : Value} (r : Slot env h x w) (hl : ∀ m,h.Ns env.locals m → h'.Ns env.locals m) (hc : ∀ c v,h.IsCell c v → h'.IsCell c v) : Slot env h' x w := by
 cases r with
 | loc m k o n e => exact .loc m k o (hl m n) e
 | cell c k o l e => exact .cell c k o l (hc c _ e)
structure Wr (P : Pr) (f : Fx) (z : Lc) (s : Shared) (b : Addr) : Prop where
 wb : Wb P f b
 ob : ∀ o,s.heap.get? b = some o → (∀ v,o.data ≠ .cell v) ∧ (∀ es ep,o.cls = .type "frame" → o.data ≠ .dict es ep) ∧ b ≠ f.env.locals ∧ (z.lv b ∨ ∃ vs,o.data = .fields vs) ∧ (o.cls = .type "tuple" → ∀ vs n,o.data ≠ .seq vs n)
theorem Wr.stable {W : Addr → Prop} {lo : Nat} (md : Md lo W s s') (hW : ∀ b,W b → Wr P f z s b) (h1 : ∀ b,z'.lv b → z.lv b ∨ s.heap.get? b = none) : Stable s.heap z.lv s'.heap z'.lv :=
 ⟨fun b o e n c => md.get e (fun w => ((hW b w).ob o e).2.2.2.1.elim n fun ⟨vs,d⟩ => c.nd vs d) c.nf,fun b o vs n e c d => md.get e (fun w => ((hW b w).ob o e).2.2.2.2 c vs n d) (ne_tf c),fun b o e _ l => (h1 b l).elim id fun q => by rw [q] at e; cases e⟩
theorem St.move {W : Addr → Prop} (S : St P f z E s) (md : Md P.C.lo W s s') (hW : ∀ b,W b → Wr P f z s b) (u : Up f s z s' z')
  (hE : ∀ x e,E' x = some e → (E x = some e ∧ z'.pl x = z.pl x ∧ (e.isL → ¬ W (z.pl x)) ∧ ∀ T fin,e = .tr T fin → z'.dx = z.dx ∧ z'.ad = z.ad ∧ ∀ b,PlT z.kt z.dx z.ad b → ¬ W b) ∨ EA P f z' s'.heap x e)
  (ij : ∀ x y e e',E' x = some e → E' y = some e' → e.isL → e'.isL → z'.pl x = z'.pl y → x = y) : St P f z' E' s' := by
 have cell : ∀ c v,s.heap.IsCell c v → s'.heap.IsCell c v := fun c v ⟨o,e,d⟩ => by
  obtain ⟨o',e',l⟩ := md.heap c o e fun w => ((hW c w).ob o e).1 _ d
  exact ⟨o',e',l.data.trans d⟩
 have nsk : ∀ m,s.heap.Ns f.env.locals m → s'.heap.Ns f.env.locals m := fun m ⟨o,es,ep,e,d,r⟩ => by
  obtain ⟨o',e',l⟩ := md.heap _ o e fun w => ((hW _ w).ob o e).2.2.1 rfl
  exact ⟨o',es,ep,e',l.data.trans d,r⟩
 have sk : ∀ {x w},Slot f.env s.heap x w → Slot f.env s'.heap x w := fun r => r.keep nsk cell
 refine ⟨fun b o e => ?_,S.rm.md md,?_,fun b l => ?_,fun b l => ?_,u.ol _ S.ll,fun b l => u.ol b (S.lu b l),S.ns.imp nsk,fun x c hm => (S.oc x c hm).imp fun v => cell c v,fun x e he => ?_,ij,fun h => let ⟨h1,h2,h3⟩ := S.zt h; ⟨u.kt.trans h1,u.dx.trans h2,fun i a e => u.ad i a (h3 i a e)⟩⟩
 ·have hb := Heap.lt_size e
  exact md.low (S.on b o e) (fun w => by rw [(hW b w).wb.h₀] at e; cases e) hb
 ·refine ⟨fun b o e n => ?_,fun b o e hn => ?_,fun b o es ep e c d => ?_,md.os.trans S.md.os,S.md.gens.trans md.gens⟩
  ·obtain ⟨o1,e1,l1⟩ := S.md.heap b o e n
   obtain ⟨o2,e2,l2⟩ := md.heap b o1 e1 fun w => (hW b w).wb.z.elim n fun q => by rw [q] at e; cases e
   exact ⟨o2,e2,l1.trans l2⟩
  ·obtain ⟨o1,e1,l1⟩ := S.md.nf b o e hn
   exact md.nf b o1 e1 l1
  ·refine byG fun G9 k9 => ?_
   obtain ⟨o1,es1,ep1,e1,c1,d1⟩ := S.md.fr b o es ep e c d
   refine k9 ?_
   clear k9 G9
   exact md.fr b o1 es1 ep1 e1 c1 d1
 ·rcases u.nw b l with l | ⟨_,q⟩
  ·obtain ⟨o,e,hn⟩ := S.lt b l
   exact md.nf b o e hn
  ·exact q
 ·rcases u.nw b l with l | ⟨q,_⟩
  ·exact S.lb b l
  ·exact .inr q
 ·rcases hE x e he with ⟨h1,h2,h3,h4⟩ | h
  ·exact (S.er x e h1).up u (fun _ => sk) (fun l => ⟨h2,fun o q e => md.get e (h3 l) q.s.nf⟩) fun T fin q => let ⟨d1,d2,d3⟩ := h4 T fin q; ⟨d1,d2,fun b o p t e => md.get e (d3 b p) t.s.nf⟩
  ·exact h
end
end
section
section
variable {P : Pr} {f : Fx} {z z' : Lc} {E E' : StE} {s s' : Shared}
theorem Up.refl (S : Stable s.heap z.lv s'.heap z.lv) : Up f s z s' z := ⟨S,fun _ => .inl,fun _ => id,rfl,rfl,fun _ _ => id⟩
theorem St.kp (S : St P f z E s) (k : Kp P.C.lo s s') : St P f z E s' :=
 S.move (W := fun _ => False) k.md (fun _ h => h.elim) (.refl (k.stable _)) (fun x e h => .inl ⟨h,rfl,fun _ => id,fun _ _ _ => ⟨rfl,rfl,fun _ _ => id⟩⟩) S.ij
theorem St.sub (S : St P f z E s) (h : ∀ x e,E' x = some e → E x = some e) : St P f z E' s :=
 ⟨S.on,S.rm,S.md,S.lt,S.lb,S.ll,S.lu,S.ns,S.oc,fun x e he => S.er x e (h x e he),fun x y e e' h1 h2 => S.ij x y e e' (h x e h1) (h y e' h2),S.zt⟩
theorem St.size (S : St P f z E s) (ok : FOk P f) : P.C.lo ≤ s.heap.objs.size := by
 obtain ⟨m,o,_,_,e,_⟩ := S.ns
 exact Nat.le_trans ok.lo (Nat.le_of_lt (Heap.lt_size e))
theorem St.lt' (S : St P f z E s) : ∀ b,z.lv b → ∃ o,s.heap.get? b = some o := fun b l => (S.lt b l).imp fun _ e => e.1
theorem St.new (S : St P f z E s) (ok : FOk P f) {b : Addr} (h : s.heap.get? b = none) : f.s₀.heap.get? b = none := by
 cases e : f.s₀.heap.get? b with
 | none => rfl
 | some o =>
  by_cases hz : f.Z b
  ·obtain ⟨o',e',_⟩ := S.md.nf b o e (ok.zl b o hz e).2.2
   rw [h] at e'; cases e'
  ·obtain ⟨o',e',_⟩ := S.md.heap b o e hz
   rw [h] at e'; cases e'
theorem St.wb (S : St P f z E s) (ok : FOk P f) {b : Addr} (h : s.heap.get? b = none) : Wb P f b := ⟨On_none S.on h,.inr (S.new ok h)⟩
theorem St.nc (S : St P f z E s) {b : Addr} (h : s.heap.get? b = none) : ¬ f.lvc b := fun l => let ⟨_,e,_⟩ := S.lt b (S.lu b l); none_some (h.symm.trans e)
theorem St.wl (S : St P f z E s) (ok : FOk P f) {b : Addr} (h : s.heap.get? b = none) (lo : P.C.lo ≤ b) : Wl P f b := ⟨S.wb ok h,S.nc h,fun q => let ⟨_,_,_,_,e,_⟩ := S.ns; none_some (h.symm.trans (q ▸ e)),lo⟩
theorem St.tick (S : St P f z E s) {I : Addr} {oI : Obj} {vI : Array Value} {h1 : Heap} {tk : Nat} (eI : s.heap.get? I = some oI) (dI : oI.data = .fields vI) (hI : Wb P f I)
  (hk : ∀ b o,b ∉ [I] → s.heap.get? b = some o → h1.get? b = some o) : St P f z E { s with heap := h1,toks := tk } ∧ Stable s.heap z.lv h1 z.lv := by
 have hk' : ∀ b o,b ≠ I → s.heap.get? b = some o → h1.get? b = some o := fun b o hb => hk b o (by simpa using hb)
 have md : Md P.C.lo (· = I) s { s with heap := h1,toks := tk } := ⟨fun b o e hz => ⟨o,hk' b o hz e,Like.refl ..⟩,fun b o e hn => ⟨o,hk' b o (by
   rintro rfl; rw [eI] at e; obtain rfl := Option.some.inj e; exact hn _ dI) e,hn⟩,fun b o es ep e c d => ⟨o,es,ep,hk' b o (by
   rintro rfl; rw [eI] at e; obtain rfl := Option.some.inj e; rw [dI] at d; cases d) e,c,d⟩,rfl,GKeep.refl _⟩
 have hW : ∀ b,b = I → Wr P f z s b := by
  rintro b rfl
  refine ⟨hI,fun o e => ?_⟩
  rw [eI] at e; obtain rfl := Option.some.inj e
  refine ⟨by rw [dI]; simp,by rw [dI]; simp,?_,.inr ⟨_,dI⟩,by rw [dI]; simp⟩
  rintro rfl
  obtain ⟨m,o,_,_,e,d,_⟩ := S.ns
  rw [eI] at e; obtain rfl := Option.some.inj e; rw [dI] at d; cases d
 have st := Wr.stable (z' := z) md hW fun _ => .inl
 refine ⟨S.move md hW (.refl st) (fun x e h => .inl ⟨h,rfl,fun hl q => ?_,fun T fin q => ⟨rfl,rfl,fun b p q => ?_⟩⟩) S.ij,st⟩
 ·obtain ⟨_,_,_,o,e,r⟩ := (S.er x e h).live hl
  rw [q,eI] at e; obtain rfl := Option.some.inj e
  exact r.ob.s.nd _ dI
 ·subst e
  obtain ⟨o,e,so⟩ := (S.er x _ h).tree.L.ob p
  rw [q,eI] at e; obtain rfl := Option.some.inj e
  exact so.s.nd _ dI
theorem St.wr (S : St P f z E s) {x : Str} {e e' : Ent} {o o' : Obj} {h' : Heap} {tk : Nat} (hx : E x = some e) (hl : e.isL) (hl' : e'.isL) (ho : s.heap.get? (z.pl x) = some o) (ho' : h'.get? (z.pl x) = some o') (hf : ∀ vs,o'.data ≠ .fields vs) (hk : ∀ b o,b ≠ z.pl x → s.heap.get? b = some o → h'.get? b = some o)
  (hr : Stable s.heap z.lv h' z.lv → LV P h' z e' o') : St P f z (setE E x e') { s with heap := h',toks := tk } ∧ Stable s.heap z.lv h' z.lv := by
 refine byG fun G9 k9 => ?_
 obtain ⟨r1,r2,r3,o1,r4,r5⟩ := (S.er x e hx).live hl
 refine k9 ?_
 clear k9 G9
 rw [ho] at r4; obtain rfl := Option.some.inj r4
 have ob := r5.ob
 have md : Md P.C.lo (· = z.pl x) s { s with heap := h',toks := tk } := rest_md hk ho ob.s.nf ⟨o',ho',hf⟩
 have hW : ∀ b,b = z.pl x → Wr P f z s b := by
  rintro b rfl
  refine ⟨r3.toWb,fun o2 e => ?_⟩
  rw [ho] at e; obtain rfl := Option.some.inj e
  exact ⟨ob.s.nc,fun _ _ c => (ob.s.nf c).elim,r3.nl,.inl r2,fun c => (ob.nt c).elim⟩
 have st := Wr.stable (z' := z) md hW fun _ => .inl
 refine ⟨S.move md hW (.refl st) (fun y e1 h => ?_) (fun y y' e1 e2 h1 h2 l1 l2 q => ?_),st⟩
 ·unfold setE at h
  by_cases hy : y = x
  ·rw [if_pos hy] at h; obtain rfl := Option.some.inj h
   subst hy
   refine .inr (.slot _ (r1.keep (fun m ⟨o2,es,ep,e,d,r⟩ => ⟨o2,es,ep,hk _ o2 (Ne.symm r3.nl) e,d,r⟩) fun c v ⟨o2,e,d⟩ => ⟨o2,hk c o2 (fun q => ob.s.nc v (get_eq e (q ▸ ho) ▸ d)) e,d⟩) (.of hl' ⟨rfl,r2,r3,o',ho',hr st⟩))
  ·rw [if_neg hy] at h
   refine .inl ⟨h,rfl,fun l q => hy (S.ij y x e1 e h hx l hl q),fun T fin q => ⟨rfl,rfl,fun b p w => ?_⟩⟩
   subst q
   exact (S.er y _ h).tree.ne r3 r5 ho (w ▸ p)
 ·unfold setE at h1 h2
  have k1 : ∃ e,E y = some e ∧ e.isL := by
   split at h1
   ·rename_i hy; exact ⟨e,by rw [hy]; exact hx,hl⟩
   ·exact ⟨e1,h1,l1⟩
  have k2 : ∃ e,E y' = some e ∧ e.isL := by
   split at h2
   ·rename_i hy; exact ⟨e,by rw [hy]; exact hx,hl⟩
   ·exact ⟨e2,h2,l2⟩
  obtain ⟨a1,b1,c1⟩ := k1
  obtain ⟨a2,b2,c2⟩ := k2
  exact S.ij y y' a1 a2 b1 b2 c1 c2 q
theorem St.put (S : St P f z E s) {x : Str} {e' : Ent} {b : Addr} (md : Md P.C.lo (· = b) s s') (wb : Wb P f b) (hb : ∀ o,s.heap.get? b = some o → (z.lv b ∨ ¬ Solid o) ∧ (∀ vs n,o.data ≠ .seq vs n)) (hL : ∀ y e,E y = some e → e.isL → z.pl y ≠ b) (hT : ∀ y T fin,E y = some (.tr T fin) → ¬ PlT z.kt z.dx z.ad b)
  (ns : ∃ m,s'.heap.Ns f.env.locals m) (oc : ∀ x c,(x,c) ∈ f.own ++ f.cl → ∃ w,s'.heap.IsCell c w) (sk : ∀ y w,y ≠ x → Slot f.env s.heap y w → Slot f.env s'.heap y w) (u : Up f s z s' z') (hd : z'.dx = z.dx ∧ z'.ad = z.ad) (hp : ∀ y,y ≠ x → z'.pl y = z.pl y)
  (hx : EA P f z' s'.heap x e') (hij : e'.isL → ∀ y e,y ≠ x → E y = some e → e.isL → z.pl y ≠ z'.pl x) : St P f z' (setE E x e') s' := by
 refine ⟨fun c o e => ?_,S.rm.md md,?_,fun c l => ?_,fun c l => (u.nw c l).elim (S.lb c) fun q => .inr q.1,u.ol _ S.ll,fun c l => u.ol c (S.lu c l),ns,oc,fun y e he => ?_,fun y y' e1 e2 h1 h2 l1 l2 q => ?_,fun h => let ⟨h1,h2,h3⟩ := S.zt h; ⟨u.kt.trans h1,u.dx.trans h2,fun i a e => u.ad i a (h3 i a e)⟩⟩
 ·have hc := Heap.lt_size e
  exact md.low (S.on c o e) (fun w => by have w : c = b := w; subst w; rw [wb.h₀] at e; cases e) hc
 ·refine ⟨fun c o e n => ?_,fun c o e hn => ?_,fun c o es ep e cl d => ?_,md.os.trans S.md.os,S.md.gens.trans md.gens⟩
  ·obtain ⟨o1,e1,l1⟩ := S.md.heap c o e n
   obtain ⟨o2,e2,l2⟩ := md.heap c o1 e1 fun w => wb.z.elim (fun q => n (w ▸ q)) fun q => by rw [← w,e] at q; cases q
   exact ⟨o2,e2,l1.trans l2⟩
  ·obtain ⟨o1,e1,l1⟩ := S.md.nf c o e hn
   exact md.nf c o1 e1 l1
  ·refine byG fun G9 k9 => ?_
   obtain ⟨o1,es1,ep1,e1,c1,d1⟩ := S.md.fr c o es ep e cl d
   refine k9 ?_
   clear k9 G9
   exact md.fr c o1 es1 ep1 e1 c1 d1
 ·rcases u.nw c l with l | ⟨_,q⟩
  ·obtain ⟨o,e,hn⟩ := S.lt c l
   exact md.nf c o e hn
  ·exact q
 ·unfold setE at he
  by_cases hy : y = x
  ·rw [if_pos hy] at he; obtain rfl := Option.some.inj he; subst hy; exact hx
  ·rw [if_neg hy] at he
   exact (S.er y e he).up u (fun w => sk y w hy) (fun l => ⟨hp y hy,fun o q e2 => md.get e2 (hL y e he l) q.s.nf⟩) fun T fin q => ⟨hd.1,hd.2,fun c o pc t e2 => md.get e2 (fun w => by subst w; exact hT y T fin (q ▸ he) pc) t.s.nf⟩
 ·unfold setE at h1 h2
  by_cases hy : y = x
  ·by_cases hy' : y' = x
   ·rw [hy,hy']
   ·rw [if_pos hy] at h1; rw [if_neg hy'] at h2; obtain rfl := Option.some.inj h1
    refine (hij l1 y' e2 hy' h2 l2 ?_).elim
    rw [← hp y' hy',← hy]; exact q.symm
  ·by_cases hy' : y' = x
   ·rw [if_neg hy] at h1; rw [if_pos hy'] at h2; obtain rfl := Option.some.inj h2
    refine (hij l2 y e1 hy h1 l1 ?_).elim
    rw [← hp y hy,← hy']; exact q
   ·rw [if_neg hy] at h1; rw [if_neg hy'] at h2
    refine S.ij y y' e1 e2 h1 h2 l1 l2 ?_
    rw [← hp y hy,← hp y' hy']; exact q
noncomputable def FKeep (s s' : Shared) : Prop := ∀ b o,s.heap.get? b = some o → (∀ es n,o.data ≠ .dict es n) → (∀ v,o.data ≠ .cell v) → s'.heap.get? b = some o
structure StoreAt (P : Pr) (f : Fx) (x : Str) (w : Value) (s s' : Shared) (b : Addr) : Prop where
 wb : Wb P f b
 sb : ∀ c o,c ≠ b → s.heap.get? c = some o → s'.heap.get? c = some o
 ob : ∃ o o',s.heap.get? b = some o ∧ s'.heap.get? b = some o' ∧ ((b = f.env.locals ∧ (∃ m,s.heap.Ns b m ∧ s'.heap.Ns b (fun y => if y = x then some w else m y)) ∧ f.env.kindOf x = some .local ∧ o'.cls = o.cls) ∨
  (f.env.kindOf x = some .cell ∧ (x,b) ∈ f.own ∧ f.own.lookup x = some b ∧ (∃ v,o.data = .cell v) ∧ o'.data = .cell (some w)))
 os : s'.os = s.os
 gs : s'.gens = s.gens
theorem StoreAt.kept {x : Str} {w : Value} {b c : Addr} {o : Obj} (a : StoreAt P f x w s s' b) (e : s.heap.get? c = some o) (nl : c ≠ f.env.locals) (nc : ∀ v,o.data ≠ .cell v) : s'.heap.get? c = some o :=
 a.sb c o (fun q => by
  obtain ⟨o1,_,e1,_,h⟩ := a.ob
  exact h.elim (fun h => nl (q.trans h.1)) fun h => let ⟨v,d⟩ := h.2.2.2.1; nc v (get_eq e (q ▸ e1) ▸ d)) e
theorem store_wp (ok : FOk P f) (ns : ∃ m,s.heap.Ns f.env.locals m) (oc : ∀ x c,(x,c) ∈ f.own ++ f.cl → ∃ w,s.heap.IsCell c w) {x : Str} {w : Value} (hx : isLC P.names x = true) {Q : Unit → Shared → Prop} {X : Value → Shared → Prop} (h : ∀ s' b,StoreAt P f x w s s' b → FKeep s s' → Q () s') : wpAny P.C.M f.A (storeName f.env x w) Q X s := by
 rcases ok.st x hx with hk | ⟨hk,hown⟩
 ·refine byG fun G9 k9 => ?_
  obtain ⟨m,hn⟩ := ns
  obtain ⟨oL,es,ep,e0,d0,_⟩ := id hn
  refine k9 ?_
  clear k9 G9
  refine storeName_cls hk hn (fun h' hn' hs' hcl => ?_) (by rw [ok.ok.kind]; rfl)
  obtain ⟨o',e',c'⟩ := hcl oL e0
  exact h _ _ ⟨ok.wl,fun c o hc e => (hs'.2 c hc).trans e,⟨oL,o',e0,e',.inl ⟨rfl,⟨m,hn,hn'⟩,hk,c'⟩⟩,rfl,rfl⟩ fun b o e nd _ => (hs'.2 b (by rintro rfl; rw [e0] at e; obtain rfl := Option.some.inj e; exact nd _ _ d0)).trans e
 ·refine byG fun G9 k9 => ?_
  obtain ⟨c,hc⟩ := Option.isSome_iff_exists.mp hown
  have hmem := mem_of_lookup hc
  obtain ⟨w0,hcell⟩ := oc x c (List.mem_append_left _ hmem)
  obtain ⟨o0,e0,d0⟩ := id hcell
  refine k9 ?_
  clear k9 G9
  refine wpAny_storeName_cell ok.ok.kind hk (by rw [ok.ce,List.lookup_append,hc]; rfl) hcell fun h' ⟨o',e',d'⟩ hs' => ?_
  exact h _ _ ⟨ok.wo x c hmem,fun c o hc e => (hs'.2 c hc).trans e,⟨o0,o',e0,e',.inr ⟨hk,hmem,hc,⟨_,d0⟩,d'⟩⟩,rfl,rfl⟩ fun b o e _ nc => (hs'.2 b (by rintro rfl; rw [e0] at e; obtain rfl := Option.some.inj e; exact nc _ d0)).trans e
structure Jk (s s2 s3 : Shared) : Prop where
 hp : ∀ b o o0,s.heap.get? b = some o0 → s2.heap.get? b = some o → s3.heap.get? b = some o
 os : s3.os = s2.os
 gs : s3.gens = s2.gens
theorem St.stored {s1 s2 s3 : Shared} {x : Str} {w : Value} {e : Ent} {b : Addr} (ok : FOk P f) (S : St P f z E s) (k : Kp P.C.lo s s1) (a : StoreAt P f x w s1 s2 b) (J : Jk s s2 s3) (ho : okName x = true)
  (nw : ∀ b,z'.lv b → z.lv b ∨ (s.heap.get? b = none ∧ ∃ o,s3.heap.get? b = some o ∧ ∀ vs,o.data ≠ .fields vs)) (ol : ∀ b,z.lv b → z'.lv b) (hk : z'.kt = z.kt ∧ z'.dx = z.dx ∧ z'.ad = z.ad) (hp : ∀ y,y ≠ x → z'.pl y = z.pl y)
  (hr : Up f s z s3 z' → EV P f z' s3.heap x e w) (hij : e.isL → ∀ y e,y ≠ x → E y = some e → e.isL → z.pl y ≠ z'.pl x) : St P f z' (setE E x e) s3 ∧ Up f s z s3 z' := by
 obtain ⟨o1,o2,e1,e2,hc⟩ := a.ob
 -- the place stood
 have ⟨o0,e0,l0⟩ : ∃ o0,s.heap.get? b = some o0 ∧ Like P.C.lo b o0 o1 := by
  have : ∃ o0,s.heap.get? b = some o0 := by
   rcases hc with ⟨rfl,_⟩ | ⟨_,hm,_⟩
   ·obtain ⟨m,o,_,_,e,_⟩ := S.ns; exact ⟨o,e⟩
   ·obtain ⟨w,o,e,_⟩ := S.oc x b (List.mem_append_left _ hm); exact ⟨o,e⟩
  obtain ⟨o0,e0⟩ := this
  obtain ⟨o',e',l⟩ := k.heap b o0 e0
  rw [e1] at e'; cases e'; exact ⟨o0,e0,l⟩
 have e3 : s3.heap.get? b = some o2 := J.hp b o2 o0 e0 e2
 have dat : (∃ es ep,o0.data = .dict es ep ∧ ∃ es ep,o2.data = .dict es ep ∧ o2.cls = o0.cls ∧ b = f.env.locals) ∨ ((∃ v,o0.data = .cell v) ∧ o2.data = .cell (some w)) := by
  rcases hc with ⟨hb,⟨m,⟨o,es,ep,e,d,_⟩,o',es',ep',e',d',_⟩,_,hcl⟩ | ⟨_,_,_,⟨v,d⟩,d'⟩
  ·rw [e1] at e; obtain rfl := Option.some.inj e
   rw [e2] at e'; cases e'
   exact .inl ⟨es,ep,l0.data.symm.trans d,es',ep',d',hcl.trans l0.cls,hb⟩
  ·exact .inr ⟨⟨v,l0.data.symm.trans d⟩,d'⟩
 have go : ∀ c o,c ≠ b → s.heap.get? c = some o → ∃ o',s3.heap.get? c = some o' ∧ Like P.C.lo c o o' := fun c o hc e => by
  obtain ⟨o',e',l⟩ := k.heap c o e
  exact ⟨o',J.hp c o' o e (a.sb c o' hc e'),l⟩
 have md : Md P.C.lo (· = b) s s3 := ⟨fun c o e n => go c o n e,fun c o e hn => by
  by_cases hc : c = b
  ·subst hc
   refine ⟨o2,e3,?_⟩
   rcases dat with ⟨_,_,_,_,_,d,_⟩ | ⟨_,d⟩ <;> rw [d] <;> nofun
  ·obtain ⟨o',e',l⟩ := go c o hc e
   exact ⟨o',e',l.data ▸ hn⟩,fun c o es ep e cl d => by
  by_cases hc : c = b
  ·subst hc
   rw [e0] at e; obtain rfl := Option.some.inj e
   rcases dat with ⟨_,_,_,es,ep,d2,hcl,_⟩ | ⟨⟨v,d2⟩,_⟩
   ·exact ⟨o2,es,ep,e3,hcl.trans cl,d2⟩
   ·rw [d] at d2; cases d2
  ·obtain ⟨o',e',l⟩ := go c o hc e
   exact ⟨o',es,ep,e',l.cls.trans cl,l.data.trans d⟩,J.os.trans (a.os.trans k.os),by rw [J.gs,a.gs]; exact k.gens⟩
 have hL : ∀ y e,E y = some e → e.isL → z.pl y ≠ b := fun y e he l q => by
  obtain ⟨_,_,r3,o,r4,r5⟩ := (S.er y e he).live l
  rcases dat with ⟨_,_,_,_,_,_,_,hl⟩ | ⟨⟨v,d⟩,_⟩
  ·exact r3.nl (q.trans hl)
  ·exact r5.ob.s.nc v (get_eq e0 (q ▸ r4) ▸ d)
 have hb : ∀ o,s.heap.get? b = some o → (z.lv b ∨ ¬ Solid o) ∧ (∀ vs n,o.data ≠ .seq vs n) := fun o e => by
  rw [e0] at e; obtain rfl := Option.some.inj e
  rcases dat with ⟨es,ep,d,_,_,_,_,hl⟩ | ⟨⟨v,d⟩,_⟩
  ·exact ⟨.inl (hl ▸ S.ll),fun _ _ q => Data.noConfusion (d.symm.trans q)⟩
  ·exact ⟨.inr fun q => q.nc _ d,fun _ _ q => Data.noConfusion (d.symm.trans q)⟩
 have u : Up f s z s3 z' := ⟨⟨fun c o e n cs => md.get e (fun q => by subst q; exact (hb o e).1.elim n fun q => q cs) cs.nf,fun c o vs n e cl d => md.get e (fun q => by subst q; exact (hb o e).2 vs n d) (ne_tf cl),fun c o e _ l => (nw c l).elim id fun q => by rw [q.1] at e; cases e⟩,
  fun c l => (nw c l).imp id fun q => ⟨S.new ok q.1,q.2⟩,ol,hk.1,hk.2.1,fun _ _ e => by rw [hk.2.2]; exact e⟩
 have cl3 : ∀ c v,c ≠ b → s.heap.IsCell c v → s3.heap.IsCell c v := fun c v hc ⟨o,e,d⟩ => by
  obtain ⟨o',e',l⟩ := go c o hc e
  exact ⟨o',e',l.data.trans d⟩
 have nL : b ≠ f.env.locals → ∀ m,s.heap.Ns f.env.locals m → s3.heap.Ns f.env.locals m := fun hb m ⟨o,es,ep,e,d,r⟩ => by
  obtain ⟨o',e',l⟩ := go _ o (Ne.symm hb) e
  exact ⟨o',es,ep,e',l.data.trans d,r⟩
 have cb : ∀ v,s.heap.IsCell b v → ∃ v,o0.data = .cell v := fun v ⟨o,e,d⟩ => by rw [e0] at e; obtain rfl := Option.some.inj e; exact ⟨v,d⟩
 refine ⟨?_,u⟩
 rcases hc with ⟨rfl,⟨m,hm,hm'⟩,hkd,_⟩ | ⟨hkd,hmem,hlk,⟨v1,d1⟩,d2⟩
 ·have m3 : s3.heap.Ns f.env.locals (fun y => if y = x then some w else m y) := by
   obtain ⟨o,es,ep,e,r⟩ := hm'
   rw [e2] at e; obtain rfl := Option.some.inj e
   exact ⟨o2,es,ep,e3,r⟩
  have nc : ∀ c v,s.heap.IsCell c v → c ≠ f.env.locals := fun c v hc q => by
   subst q
   obtain ⟨v',d'⟩ := cb v hc
   rcases dat with ⟨_,_,d,_⟩ | ⟨_,d⟩
   ·rw [d] at d'; cases d'
   ·obtain ⟨o,es,ep,e,dd,_⟩ := hm'
    rw [e2] at e; obtain rfl := Option.some.inj e; rw [d] at dd; cases dd
  refine S.put md a.wb hb hL (fun y T fin e => (S.er y _ e).tree.nl) ⟨_,m3⟩ (fun y c hm => (S.oc y c hm).imp fun v hv => cl3 c v (nc c v hv) hv) (fun y v hy sl => ?_) u hk.2 hp (.slot w (.loc _ hkd ho m3 (if_pos rfl)) (hr u)) hij
  cases sl with
  | loc m2 kk o n e =>
   have := hm.agree (k.ns n) y
   exact .loc _ kk o m3 ((if_neg hy).trans (this.trans e))
  | cell c kk o l e => exact .cell c kk o l (cl3 c _ (nc c _ e) e)
 ·have hbl : b ≠ f.env.locals := by
   rintro rfl
   obtain ⟨m,o,es,ep,e,d,_⟩ := S.ns
   rw [e0] at e; obtain rfl := Option.some.inj e
   rw [l0.data,d] at d1; cases d1
  refine S.put md a.wb hb hL (fun y T fin e p => ?_) (S.ns.imp (nL hbl)) (fun y c hm => ?_) (fun y v hy sl => ?_) u hk.2 hp (.slot w (.cell b (.inl hkd) ho (by rw [ok.ce,List.lookup_append,hlk]; rfl) ⟨o2,e3,d2⟩) (hr u)) hij
  ·obtain ⟨o,e,t⟩ := (S.er y _ e).tree.L.ob p
   rw [e0] at e; obtain rfl := Option.some.inj e
   exact t.s.nc _ (l0.data.symm.trans d1)
  ·by_cases hc : c = b
   ·subst hc; exact ⟨_,o2,e3,d2⟩
   ·exact (S.oc y c hm).imp fun v => cl3 c v hc
  ·cases sl with
   | loc m2 kk o n e => exact .loc m2 kk o (nL hbl m2 n) e
   | cell c kk o l e =>
    refine .cell c kk o l (cl3 c _ (fun q => ?_) e)
    rw [ok.ce,List.lookup_append] at l
    cases ho' : f.own.lookup y with
    | none =>
     rw [ho'] at l
     exact ok.ot x b hmem y c (mem_of_lookup l) q.symm
    | some c'' =>
     rw [ho'] at l
     obtain rfl := Option.some.inj l
     exact hy (name_of_addr ok.ap (q ▸ mem_of_lookup ho') hmem)
theorem St.store (ok : FOk P f) (S : St P f z E s) {x : Str} {v : V} {w : Value} (hx : isLC P.names x = true) (ho : okName x = true) (r : VR P.C s.heap z v w) {Q : Unit → Shared → Prop} {Ex : Value → Shared → Prop} (h : ∀ s',St P f z (setE E x (.val v)) s' → Stable s.heap z.lv s'.heap z.lv → FKeep s s' → Q () s') : wpAny P.C.M f.A (storeName f.env x w) Q Ex s :=
 store_wp ok S.ns S.oc hx fun s' b a fk =>
  let q := S.stored (z' := z) (e := .val v) ok (.refl ..) a ⟨fun _ _ _ _ e => e,rfl,rfl⟩ ho (fun _ => .inl) (fun _ => id) ⟨rfl,rfl,rfl⟩ (fun _ _ => rfl) (fun u => VR.up u r) fun l => l.elim
  h s' q.1 q.2.st fk
end
end
section
noncomputable def noSet : Expr → Bool
 | .Set .. => false
 | _ => true
noncomputable def notSlice : Expr → Bool
 | .Slice .. => false
 | _ => true
section
variable {C : Cx} {A : Around} {env : Env} {s : Shared} {lv : Addr → Prop}
theorem allFalse_star {pos : Pos} : ∀ {es : List Expr},es.all noStar = true → (backTo pos (starEach es env)).any (·.1) = false
 | [],_ => rfl
 | e :: es,h => by
  simp only [List.all_cons,Bool.and_eq_true] at h
  rw [star_cons h.1]
  have := allFalse_star (pos := pos) h.2
  unfold backTo at this ⊢
  simpa using this
noncomputable def KeepOk (C : Cx) (fv : Value) : Prop := ∀ h,C.K.In h → ∃ k,(k = Keeper.frame ∨ k = Keeper.machine ∨ k = Keeper.boundFrame) ∧ Looks C.M h (keeperOf fv) k
theorem keep_in {fv : Value} (hk : keepIn C.K fv = true) : KeepOk C fv := fun h X => keeps_K hk h X
theorem keep_builtin {id : String} : KeepOk C (.builtin id) := fun _ _ => ⟨.machine,.inr (.inl rfl),Looks.of_pure rfl⟩
theorem keep_type {id : String} : KeepOk C (.type id) := fun _ _ => ⟨.machine,.inr (.inl rfl),Looks.of_pure rfl⟩
theorem callWith_args {pos : Pos} {args : List Expr} {fv : Value} {first : List Value} {Q : Value → Shared → Prop} {E : Value → Shared → Prop} (hon : C.On s) (hk : KeepOk C fv) (hs : args.all noStar = true)
  (h : wpAny C.M A (spliced (backTo pos (starEach args env))) (fun vs s₁ => C.On s₁ ∧ wpAny C.M A (call fv (first ++ vs)) Q E s₁) E s) : wpAny C.M A (callWith pos fv first (backTo pos (starEach args env)) []) Q E s := by
 cases args with
 | nil =>
  refine callWith_of (P := C.K.In) rfl hk (evalArgs_nil3 ?_)
  have h2 : wpAny C.M A (pure [] : Sem (List Value)) (fun vs s₁ => C.On s₁ ∧ wpAny C.M A (call fv (first ++ vs)) Q E s₁) E s := h
  exact ⟨C.kin.keeps hon,fun Γ p hΓ => (h2 Γ p hΓ).2 Γ p hΓ⟩
 | cons e es =>
  simp only [List.all_cons,Bool.and_eq_true] at hs
  rw [star_cons hs.1] at h ⊢
  refine callWith_of (P := C.K.In) (by show ((false || (backTo pos (starEach es env)).any (·.1)) || false) = false; rw [allFalse_star hs.2]; rfl) hk (Calls.evalArgs_plain (wpAny_mono h (fun vs s₁ h₁ => ⟨C.kin.keeps h₁.1,h₁.2⟩) fun _ _ x => x))
theorem call_name {f : Str} {p pos : Pos} {args : List Expr} {fv : Value} {Q : Value → Shared → Prop} {E : Value → Shared → Prop} (hon : C.On s) (hk : KeepOk C fv) (hs : args.all noStar = true)
  (hn : ∀ Q E,Q fv s → wpAny C.M A (eval (.Name f p) env) Q E s)
  (h : wpAny C.M A (spliced (backTo pos (starEach args env))) (fun vs s₁ => C.On s₁ ∧ wpAny C.M A (call fv vs) Q E s₁) E s) : wpAny C.M A (eval (.Call (.Name f p) args [] pos) env) Q E s :=
 Call_ (hn _ _ (callWith_args (first := []) hon hk hs (by simpa using h)))
noncomputable def EvT (C : Cx) (A : Around) (lv : Addr → Prop) (s : Shared) (t : Sem Value) (d : PyData) : Prop :=
 ∀ (Q : Value → Shared → Prop) (E : Value → Shared → Prop),(∀ val s',Kp C.lo s s' → Rt s'.heap lv val d → Q val s') → wpAny C.M A t Q E s
theorem isTrue_eq_plain {e : Expr} {b : Bool} {t : Sem Value} (d : PyData) (h : truthD d = some b) (hp : ∀ w,isTrue e env w = (do let v ← w; standAt e.pos; holding [v] (truthy v))) (T : EvT C A lv s t d) : EvB C A s (isTrue e env t) b := by
 intro Q E k
 rw [hp]
 refine wpAny_bind (T _ _ fun val s' k' r => wpAny_bind (wpAny_standAt (wpAny_holding (evb_truthy (C := C) r h _ _ fun s'' k'' => k s'' (k'.trans k'')))))
theorem subscripted_plain {slice : Expr} (h : notSlice slice = true) (o i : Value) : subscripted slice false o i = operate [o,i] (getItem o i) := by
 cases slice <;> first | rfl | exact no_tf h
theorem noSet_fold {env : Env} {x : Value} {e : Expr} (h : noSet e = true) : foldedSetIterable e env x = pure x := by
 cases e <;> first | rfl | exact no_tf h
theorem noSet_marks {op : CmpOp} {r : Expr} (h : noSet r = true) : behindInMarks op r = false := by
 cases r <;> first | rfl | exact no_tf h
theorem isSlice_of_push {h : Heap} {l u t : Value} : (h.push { cls := .type "slice",data := .fields #[l,u,t] }).IsSliceOf h.objs.size l u t := ⟨_,Heap.get?_push_size _ rfl,rfl,rfl⟩
theorem Rds.less {h : Heap} {lv lv' : Addr → Prop} {vs : List Value} {ds : List PyData} (r : Rds h lv vs ds) (hl : ∀ b,lv' b → lv b) : Rds h lv' vs ds := let ⟨as,r,n⟩ := r; ⟨as,r,fun a ha l => n a ha (hl a l)⟩
theorem Rd.less {h : Heap} {lv lv' : Addr → Prop} {v : Value} {d : PyData} (r : Rd h lv v d) (hl : ∀ b,lv' b → lv b) : Rd h lv' v d := let ⟨as,r,n⟩ := r; ⟨as,r,fun a ha l => n a ha (hl a l)⟩
theorem ev_slice {vo sl vl vu : Value} {d d' : PyData} {lo hi : Option Int} {a : Addr} (lt : ∀ b,lv b → ∃ o,s.heap.get? b = some o) (r : Rt s.heap lv vo d) (hd : sliceD lo hi d = some d') (e : sl = .ref a) (hs : s.heap.IsSliceOf a vl vu .none)
  (pl : Pt s.heap lv vl lo) (pu : Pt s.heap lv vu hi) : (∃ T id,s.TypeIs vo T ∧ typeLookup (.type T) "__getitem__" = pure (some (.builtin id))) ∧ Ev C A lv s (getItem vo sl) d' := by
 unfold sliceD at hd
 split at hd
 ·split at hd
  ·rename_i hf
   cases hd
   obtain ⟨b,vs,rfl,⟨o,e1,e2,n,e3⟩,hr⟩ := id r
   exact ⟨⟨"list","list.__getitem__",⟨o,e1,e2⟩,rfl⟩,ev_slice_list lt r hf e hs pl pu⟩
  ·cases hd
 ·split at hd
  ·rename_i hf
   cases hd
   obtain ⟨t,vs,rfl,⟨o,e1,e2,n,e3⟩,hr⟩ := Rd.tuple_inv r
   exact ⟨⟨"tuple","tuple.__getitem__",⟨o,e1,e2⟩,rfl⟩,ev_slice_tuple r hf e hs pl pu⟩
  ·cases hd
 ·cases hd
end
noncomputable def Ex (P : Pr) (E : StE) (e : Expr) (v : V) : Prop :=
 ∀ f z s,FOk P f → St P f z E s → ∀ Q X : Value → Shared → Prop,(∀ w s',Kp P.C.lo s s' → VR P.C s'.heap z v w → Q w s') → wpAny P.C.M f.A (eval e f.env) Q X s
noncomputable def Ee (P : Pr) (E : StE) (e : Expr) (v : V) (E' : StE) : Prop :=
 ∀ f z s,FOk P f → St P f z E s → ∀ Q X : Value → Shared → Prop,(∀ w s',St P f z E' s' → VR P.C s'.heap z v w → Q w s') → wpAny P.C.M f.A (eval e f.env) Q X s
theorem Ex.ee {P : Pr} {E : StE} {e : Expr} {v : V} (h : Ex P E e v) : Ee P E e v E := fun f z s ok S Q X q => h f z s ok S Q X fun w s' k r => q w s' (S.kp k) r
noncomputable def Xd (P : Pr) (E : StE) (e : Expr) (d : PyData) : Prop :=
 ∀ f z s,FOk P f → St P f z E s → EvT P.C f.A z.lv s (eval e f.env) d
noncomputable def Xt (P : Pr) (E : StE) (e : Expr) (b : Bool) : Prop :=
 ∀ f z s,FOk P f → St P f z E s → EvB P.C f.A s (isTrue e f.env (eval e f.env)) b
noncomputable def Xp (P : Pr) (E : StE) (e : Option Expr) (k : Option Int) : Prop :=
 ∀ f z s,FOk P f → St P f z E s → ∀ Q X : Value → Shared → Prop,(∀ w s',Kp P.C.lo s s' → (∀ h,Pt h z.lv w k) → Q w s') → wpAny P.C.M f.A (evalPart e f.env) Q X s
noncomputable def Xs (P : Pr) (E : StE) (es : List Expr) (vs : List V) : Prop :=
 es.all noStar = true ∧ ∀ f z s pos,FOk P f → St P f z E s → ∀ (Q : List Value → Shared → Prop) (X : Value → Shared → Prop),(∀ ws s',Kp P.C.lo s s' → All2 (VR P.C s'.heap z) vs ws → Q ws s') → wpAny P.C.M f.A (spliced (backTo pos (starEach es f.env))) Q X s
theorem VR.kp {C : Cx} {lo : Nat} {s s' : Shared} {z : Lc} {v : V} {w : Value} (r : VR C s.heap z v w) (k : Kp lo s s') : VR C s'.heap z v w := r.gr (k.stable _) rfl fun _ _ e => e
section
variable {P : Pr} {E : StE}
theorem Slot.name {f : Fx} {s : Shared} {x : Str} {w : Value} {pos : Pos} {Q X : Value → Shared → Prop} (ok : EnvOk f.env) (r : Slot f.env s.heap x w) (h : Q w s) : wpAny P.C.M f.A (eval (.Name x pos) f.env) Q X s := by
 cases r with
 | loc m k o n e => exact wpAny_Name (wpAny_loadName_local ok.kind k n e h) (by unfold okName at o; simp at o; simpa using o.1)
 | cell c k o l e =>
  have hd : (x == ("__debug__" : Str)) = false := by unfold okName at o; simp at o; simpa using o.1
  rcases k with k | k
  ·exact wpAny_Name (wpAny_loadName_cell ok.kind k l e h) hd
  ·exact wpAny_Name (wpAny_loadName_free ok.kind k l e h (by unfold okName at o; simp at o; simpa using o.2)) hd
theorem n_val {x : Str} {p : Pos} {v : V} (h : E x = some (.val v)) : Ex P E (.Name x p) v := fun f z s ok S Q X q =>
 let ⟨w,sl,r⟩ := (S.er x _ h).val; sl.name ok.ok (q w s (.refl ..) r)
theorem n_live {x : Str} {p : Pos} {l : List PyData} (h : E x = some (.live l)) : Xd P E (.Name x p) (.list l) := fun f z s ok S Q X q =>
 by
 refine byG fun G9 k9 => ?_
 obtain ⟨sl,_,_,o,e,vs,n,eo,r⟩ := (S.er x _ h).live (e := .live l) trivial
 refine k9 ?_
 clear k9 G9
 exact sl.name ok.ok (q _ s (.refl ..) ⟨_,vs,rfl,⟨o,e,by rw [eo]; rfl,n,by rw [eo]; rfl⟩,r⟩)
theorem d_of {e : Expr} {d : PyData} (h : Ex P E e (.dat d)) : Xd P E e d := fun f z s ok S Q X q => h f z s ok S Q X fun w s' k r => q w s' k (Rd.rt r)
theorem ev_conv {e : Expr} {v w : V} (h : Ex P E e v) (hv : v = w) : Ex P E e w := hv ▸ h
theorem r_int {i : Int} {k : Nat} {p : Pos} : Ex P E (.Constant (.int i) k p) (.dat (.int i)) := fun f z s ok S Q X q => wpAny_Constant_int (q _ _ Kp.tok rd_int)
theorem r_bool {b : Bool} {k : Nat} {p : Pos} : Ex P E (.Constant (.bool b) k p) (.dat (.bool b)) := fun f z s ok S Q X q => wpAny_Constant_bool (q _ _ (.refl ..) rd_bool)
theorem r_none {k : Nat} {p : Pos} : Ex P E (.Constant .none k p) (.dat .none) := fun f z s ok S Q X q => wpAny_Constant_none (q _ _ (.refl ..) rd_none)
theorem Xd.two {l r : Expr} {a b : PyData} (hl : Xd P E l a) (hr : Xd P E r b) {f : Fx} {z : Lc} {s : Shared} (ok : FOk P f) (S : St P f z E s) {K : Value → Value → Shared → Prop} {X : Value → Shared → Prop}
  (h : ∀ va vb s',Kp P.C.lo s s' → Rt s'.heap z.lv va a → Rt s'.heap z.lv vb b → K va vb s') : wpAny P.C.M f.A (eval l f.env) (fun va s₁ => wpAny P.C.M f.A (eval r f.env) (fun vb s₂ => K va vb s₂) X s₁) X s :=
 hl f z s ok S _ _ fun va s1 k1 ra => hr f z s1 ok (S.kp k1) _ _ fun vb s2 k2 rb => h va vb s2 (k1.trans k2) (ra.kp k2) rb
theorem r_bin {l r : Expr} {op : Operator} {p : Pos} {a b c : PyData} (hl : Xd P E l a) (hr : Xd P E r b) (hb : binD op a b = some c) : Ex P E (.BinOp l op r p) (.dat c) := fun f z s ok S Q X q =>
 wpAny_BinOp (hl.two hr ok S fun va vb s' k ra rb => ev_bin (C := P.C) (S.kp k).lt' ra rb hb Q X fun w s2 k2 => q w s2 (k.trans k2))
theorem r_cmp {l r : Expr} {op : CmpOp} {p : Pos} {a b c : PyData} (hs : noSet r = true) (hl : Xd P E l a) (hr : Xd P E r b) (hb : cmpD op a b = some c) : Ex P E (.Compare l [op] [r] p) (.dat c) := fun f z s ok S Q X q =>
 wpAny_Compare1 (hl.two hr ok S fun va vb s' k ra rb => ev_cmp (C := P.C) (Nat.lt_of_le_of_lt (by omega) S.rm.units) ra rb hb Q X fun w s2 k2 => q w s2 (k.trans k2)) (noSet_marks hs)
theorem r_neg {x : Expr} {p : Pos} {i : Int} (h : Xd P E x (.int i)) : Ex P E (.UnaryOp .USub x p) (.dat (.int (-i))) := fun f z s ok S Q X q =>
 wpAny_UnaryOp (h f z s ok S _ _ fun w s' k r => by obtain ⟨t,rfl⟩ := Rd.int_inv r; exact neg_int (q _ _ (k.trans Kp.tok) rd_int))
theorem Xt.plain {e : Expr} {d : PyData} {b : Bool} (h : Xd P E e d) (hb : truthD d = some b) (hp : ∀ env w,isTrue e env w = (do let v ← w; standAt e.pos; holding [v] (truthy v)) := by intro _ _; rfl) : Xt P E e b := fun f z s ok S => isTrue_eq_plain d hb (hp f.env) (h f z s ok S)
theorem Xt.not {e : Expr} {p : Pos} {b : Bool} (h : Xt P E e b) : Xt P E (.UnaryOp .Not e p) (!b) := fun f z s ok S Q X q =>
 isTrue_not (h f z s ok S _ _ fun s' k => q s' k)
theorem t_cmp {l r : Expr} {op : CmpOp} {p : Pos} {a c : PyData} {b : Bool} (hs : noSet r = true) (hl : Xd P E l a) (hr : Xd P E r c) (hb : cmpD op a c = some (.bool b)) : Xt P E (.Compare l [op] [r] p) b := fun f z s ok S Q X q =>
 wpAny_isTrue_Compare1 (hl.two hr ok S fun va vb s' k ra rb => ev_cmp (C := P.C) (Nat.lt_of_le_of_lt (by omega) S.rm.units) ra rb hb _ X fun w s2 k2 r2 => evb_truthy (C := P.C) (d := .bool b) (b := b) r2 rfl _ _ fun s3 k3 => q s3 ((k.trans k2).trans k3)) (noSet_marks hs)
theorem vs_nil : Xs P E [] [] := ⟨rfl,fun f z s pos ok S Q X q => args_nil (q _ _ (.refl ..) .nil)⟩
theorem vs_cons {e : Expr} {es : List Expr} {v : V} {vs : List V} (h : Ex P E e v) (hs : noStar e = true) (hr : Xs P E es vs) : Xs P E (e :: es) (v :: vs) := ⟨by rw [List.all_cons,hs,hr.1]; rfl,fun f z s pos ok S Q X q => by
 rw [star_cons hs]
 refine Calls.spliced_cons ?_
 show wpAny P.C.M f.A (eval e f.env) _ _ s
 exact h f z s ok S _ _ fun w s' k r => hr.2 f z s' pos ok (S.kp k) _ _ fun ws s2 k2 rs => q _ _ (k.trans k2) (.cons (r.kp k2) rs)⟩
theorem rds_of {h : Heap} {z : Lc} {ds : List PyData} : ∀ {ws : List Value},All2 (VR P.C h z) (ds.map .dat) ws → Rds h z.lv ws ds := by
 induction ds with
 | nil => intro ws x; cases x; exact .nil
 | cons d ds ih => intro ws x; cases x with | cons r rs => exact .cons r (ih rs)
theorem r_tuple {es : List Expr} {k : Nat} {p : Pos} {ds : List PyData} (h : Xs P E es (ds.map .dat)) (hf : fits ds.length = true) : Ex P E (.Tuple es k p) (.dat (.tuple ds)) := fun f z s ok S Q X q =>
 Tuple_ (h.2 f z s _ ok S _ _ fun ws s' k rs => ev_newTuple (C := P.C) (rds_of rs) hf Q X fun w s2 k2 => q w s2 (k.trans k2))
noncomputable def Xl (P : Pr) (E : StE) (e : Expr) (ds : List PyData) : Prop :=
 ∀ f z s,FOk P f → St P f z E s → ∀ Q X : Value → Shared → Prop,(∀ a vs n s',Kp P.C.lo s s' → P.C.lo ≤ a → s.heap.get? a = none → s'.heap.get? a = some (lobj vs n) → Rds s'.heap (fun b => z.lv b ∨ b = a) vs ds → Q (.ref a) s') → wpAny P.C.M f.A (eval e f.env) Q X s
theorem l_list {es : List Expr} {p : Pos} {ds : List PyData} (h : Xs P E es (ds.map .dat)) (hf : fits ds.length = true) : Xl P E (.List es p) ds := fun f z s ok S Q X q =>
 List_ (h.2 f z s _ ok S _ _ fun ws s' k rs => by
  have r := rds_of rs
  have hl := r.length
  refine wpAny_newObj_type (q _ ws 0 _ (k.trans Kp.push') ((S.kp k).size ok) ?_ (Heap.get?_push_size _ rfl) (r.mono ⟨fun b o e _ _ => Heap.get?_push_of_some _ e,fun b o vs n e _ _ => Heap.get?_push_of_some _ e,fun b o e _ l => l.elim id fun q => (ne_size e q).elim⟩)) (by show ws.toArray.size ≤ sizeLine; rw [List.size_toArray,hl]; exact sizeLine_ge (fits_lt hf))
  cases e : s.heap.get? s'.heap.objs.size with
  | none => rfl
  | some o => obtain ⟨o',e',_⟩ := k.heap _ o e; rw [get_none_size] at e'; cases e')
theorem Xl.ev {e : Expr} {ds : List PyData} (h : Xl P E e ds) : Ex P E e (.dat (.list ds)) := fun f z s ok S Q X q =>
 h f z s ok S Q X fun a vs n s' k _ hn ha r => q _ _ k (Rd.list ⟨_,ha,rfl,n,rfl⟩ (r.less fun b => .inl) fun l => let ⟨_,e⟩ := S.lt' a l; by rw [hn] at e; cases e)
theorem r_list {es : List Expr} {p : Pos} {ds : List PyData} (h : Xs P E es (ds.map .dat)) (hf : fits ds.length = true) : Ex P E (.List es p) (.dat (.list ds)) := (l_list h hf).ev
theorem o_none : Xp P E none none := fun f z s ok S Q X q => wpAny_pure (q _ _ (.refl ..) fun _ => rfl)
theorem o_some {e : Expr} {i : Int} (h : Xd P E e (.int i)) : Xp P E (some e) (some i) := fun f z s ok S Q X q => h f z s ok S _ _ fun w s' k r => q w s' k fun _ => Rd.int_inv r
theorem r_slice {v : Expr} {lo hi : Option Expr} {p q : Pos} {d d' : PyData} {l h : Option Int} (hv : Xd P E v d) (hl : Xp P E lo l) (hh : Xp P E hi h) (hd : sliceD l h d = some d') : Ex P E (.Subscript v (.Slice lo hi none p) q) (.dat d') := fun f z s ok S Q X q => by
 refine Subscript_ (hv f z s ok S _ _ fun vo s1 k1 ro => ?_)
 refine wpAny_Slice (hl f z s1 ok (S.kp k1) _ _ fun vl s2 k2 pl => hh f z s2 ok (S.kp (k1.trans k2)) _ _ fun vu s3 k3 pu => wpAny_pure ?_)
 have kp : Kp P.C.lo s3 { s3 with heap := s3.heap.push { cls := .type "slice",data := .fields #[vl,vu,.none] } } := Kp.push'
 have k14 := ((k1.trans k2).trans k3).trans kp
 refine byG fun G9 k9 => ?_
 obtain ⟨⟨Ty,id,hT,hl⟩,hev⟩ := ev_slice (C := P.C) (A := f.A) (S.kp k14).lt' (ro.kp ((k2.trans k3).trans kp)) hd rfl isSlice_of_push (pl _) (pu _)
 refine k9 ?_
 clear k9 G9
 exact tail_any (ops := [_,_]) hT hl (hev Q X fun w s4 k4 => q w s4 (k14.trans k4)) rfl
theorem r_item {v i : Expr} {q : Pos} {d d' : PyData} {k : Int} (hn : notSlice i = true) (hv : Xd P E v d) (hi : Xd P E i (.int k)) (hd : itemD d k = some d') : Ex P E (.Subscript v i q) (.dat d') := fun f z s ok S Q X q =>
 Subscript_ (hv.two hi ok S fun vo vi s2 k2 ro ri => ev_item (C := P.C) ro ri hd (subscripted_plain hn) Q X fun w s3 k3 => q w s3 (k2.trans k3))
theorem t_and {x : Expr} {r : List Expr} {p : Pos} {b c : Bool} (hx : Xt P E x b) (hy : b = true → Xt P E (.BoolOp .And r p) c) : Xt P E (.BoolOp .And (x :: r) p) (b && c) := fun f z s ok S Q X q =>
 isTrue_and (hx f z s ok S _ _ fun s' k => by
  cases b with
  | true => exact hy rfl f z s' ok (S.kp k) Q X fun s2 k2 => q s2 (k.trans k2)
  | false => exact q _ k)
theorem t_and_nil {p : Pos} : Xt P E (.BoolOp .And [] p) true := fun f z s ok S Q X q => isTrue_and_nil (q _ (.refl ..))
end
end
section
section
variable {P : Pr} {E : StE}
theorem gl_kind {f : Fx} {x : Str} (ok : FOk P f) (h : isGl P.names x = true) : f.env.kindOf x = some .globalImplicit ∧ (x == ("__debug__" : Str)) = false := by
 unfold isGl at h
 split at h
 ·rename_i e
  unfold okName at h
  simp at h
  exact ⟨ok.gl x e,by simpa using h.1⟩
 ·cases h
theorem call_bn {f : Fx} {z : Lc} {s : Shared} {x : Str} {fv : Value} {args : List Expr} {p pos : Pos} {Q X : Value → Shared → Prop} (ok : FOk P f) (S : St P f z E s) (hg : isGl P.names x = true) (hb : isBn x = true) (hv : bootBuiltins x = some fv) (hne : x ≠ "__name__") (hk : KeepOk P.C fv) (hs : args.all noStar = true)
  (h : wpAny P.C.M f.A (spliced (backTo pos (starEach args f.env))) (fun vs s₁ => P.C.On s₁ ∧ wpAny P.C.M f.A (call fv vs) Q X s₁) X s) : wpAny P.C.M f.A (eval (.Call (.Name x p) args [] pos) f.env) Q X s :=
 call_name S.on hk hs (fun Q X q => name_builtin S.on ok.ok (gl_kind ok hg).1 (ok.gb x hb) hv hne (gl_kind ok hg).2 q) h
theorem call_b1 {x : Str} {fv : Value} {e : Expr} {p pos : Pos} {d : PyData} {v : V} (hx : Xd P E e d) (hs : noStar e = true) (hg : isGl P.names x = true) (hb : isBn x = true) (hv : bootBuiltins x = some fv) (hne : x ≠ "__name__") (hk : KeepOk P.C fv)
  (h : ∀ f z s w,FOk P f → St P f z E s → Rt s.heap z.lv w d → ∀ Q X : Value → Shared → Prop,(∀ w s',Kp P.C.lo s s' → VR P.C s'.heap z v w → Q w s') → wpAny P.C.M f.A (call fv [w]) Q X s) : Ex P E (.Call (.Name x p) [e] [] pos) v := fun f z s ok S Q X q =>
 call_bn ok S hg hb hv hne hk (by rw [List.all_cons,hs]; rfl) (args_one hs (hx f z s ok S _ _ fun w s' k r => ⟨(S.kp k).on,h f z s' w ok (S.kp k) r Q X fun w s2 k2 => q w s2 (k.trans k2)⟩))
theorem r_len {e : Expr} {p pos : Pos} {d d' : PyData} (hx : Xd P E e d) (hs : noStar e = true) (hg : isGl P.names "len" = true) (hd : lenD d = some d') : Ex P E (.Call (.Name "len" p) [e] [] pos) (.dat d') :=
 call_b1 hx hs hg rfl rfl (by decide) keep_builtin fun f z s w ok S r Q X q => ev_len (C := P.C) r hd Q X q
theorem r_tup {e : Expr} {p pos : Pos} {xs : List PyData} (hx : Xd P E e (.list xs)) (hs : noStar e = true) (hg : isGl P.names "tuple" = true) (hf : fits xs.length = true) : Ex P E (.Call (.Name "tuple" p) [e] [] pos) (.dat (.tuple xs)) :=
 call_b1 hx hs hg rfl rfl (by decide) keep_type fun f z s w ok S ⟨b,vs,e,hl,hr⟩ Q X q => by
  subst e
  have l1 := hr.length
  have hz := sizeLine_ge (fits_lt hf)
  refine call_tuple_list hl (fun h' hk => ?_) (by simp; omega)
  have kk : Kp P.C.lo s { s with heap := h'.push { cls := .type "tuple",data := .seq vs.toArray } } := Kp.of_keep (tk := s.toks) fun b o e => Heap.get?_push_of_some _ (hk b o e)
  exact q _ _ kk (Rd.tuple ⟨_,Heap.get?_push_size _ rfl,rfl,0,rfl⟩ (hr.kp kk))
theorem call_b2 {x : Str} {fv : Value} {e1 e2 : Expr} {p pos : Pos} {a b : Int} {v : V} (h1 : Xd P E e1 (.int a)) (h2 : Xd P E e2 (.int b)) (hs : noStar e1 = true) (hs' : noStar e2 = true) (hg : isGl P.names x = true) (hb : isBn x = true) (hv : bootBuiltins x = some fv) (hne : x ≠ "__name__") (hk : KeepOk P.C fv)
  (h : ∀ (f : Fx) s t u,FOk P f → ∀ Q X : Value → Shared → Prop,(∀ w s',Kp P.C.lo s s' → (∀ z : Lc,VR P.C s'.heap z v w) → Q w s') → wpAny P.C.M f.A (call fv [.int a t,.int b u]) Q X s) : Ex P E (.Call (.Name x p) [e1,e2] [] pos) v := fun f z s ok S Q X q => by
 refine call_bn ok S hg hb hv hne hk (by rw [List.all_cons,hs,List.all_cons,hs']; rfl) ?_
 rw [star_cons hs]
 refine Calls.spliced_cons ?_
 show wpAny P.C.M f.A (eval e1 f.env) _ _ s
 refine h1 f z s ok S _ _ fun w s1 k1 r1 => args_one hs' (h2 f z s1 ok (S.kp k1) _ _ fun w2 s2 k2 r2 => ?_)
 obtain ⟨t,rfl⟩ := Rd.int_inv r1
 obtain ⟨u,rfl⟩ := Rd.int_inv r2
 exact ⟨(S.kp (k1.trans k2)).on,h f s2 t u ok Q X fun w s3 k3 r => q w s3 ((k1.trans k2).trans k3) (r z)⟩
theorem r_max {e1 e2 : Expr} {p pos : Pos} {a b : Int} (h1 : Xd P E e1 (.int a)) (h2 : Xd P E e2 (.int b)) (hs : noStar e1 = true) (hs' : noStar e2 = true) (hg : isGl P.names "max" = true) (hu : P.un = true) : Ex P E (.Call (.Name "max" p) [e1,e2] [] pos) (.dat (.int (if b > a then b else a))) :=
 call_b2 h1 h2 hs hs' hg rfl rfl (by decide) keep_builtin fun f s t u ok Q X q => max_two_ints (ok.un hu) fun h' tk hk => q _ _ (Kp.of_keep hk) fun z => by
  show Rd _ _ _ (.int _)
  split <;> exact rd_int
noncomputable def It (P : Pr) (E : StE) (e : Expr) (items : List PyData) : Prop :=
 (∀ env x,foldedSetIterable e env x = pure x) ∧ ∀ f z s,FOk P f → St P f z E s → Src P.C f.A z.lv s (eval e f.env) items
theorem it_val {e : Expr} {d : PyData} {items : List PyData} (hu : P.un = true) (hs : noSet e = true) (h : Ex P E e (.dat d)) (hd : itemsOf d = some items) : It P E e items := by
 refine ⟨fun env x => noSet_fold hs,fun f z s ok S Q X k => h f z s ok S _ _ fun w s' k' r => k _ _ k' ?_⟩
 have r : Rd s'.heap z.lv w d := r
 cases d <;> simp only [itemsOf,reduceCtorEq,Option.some.injEq] at hd
 all_goals subst hd
 ·obtain ⟨a,vs,rfl,hl,hr,nl⟩ := Rd.list_inv r
  exact iter_list (ok.un hu) hl hr nl
 ·obtain ⟨a,vs,rfl,hl,hr⟩ := Rd.tuple_inv r
  exact iter_tuple (ok.un hu) hl hr
noncomputable def Rg (P : Pr) (E : StE) (e : Expr) (a b c : Int) : Prop :=
 noStar e = true ∧ (∀ env x,foldedSetIterable e env x = pure x) ∧ ∀ f z s,FOk P f → St P f z E s → ∀ Q X : Value → Shared → Prop,(∀ r s' t u v,Kp P.C.lo s s' → IsRange s'.heap r a b c t u v → Q (.ref r) s') → wpAny P.C.M f.A (eval e f.env) Q X s
theorem rg_1 {e : Expr} {p q : Pos} {b : Int} (hx : Xd P E e (.int b)) (hs : noStar e = true) (hg : isGl P.names "range" = true) : Rg P E (.Call (.Name "range" p) [e] [] q) 0 b 1 := ⟨rfl,fun _ _ => rfl,fun f z s ok S Q X k =>
 call_bn ok S hg rfl rfl (by decide) keep_type (by rw [List.all_cons,hs]; rfl) (args_one hs (hx f z s ok S _ _ fun w s' k' r => ⟨(S.kp k').on,by
  obtain ⟨t,rfl⟩ := Rd.int_inv r
  exact call_range_1 (k _ _ _ _ _ (k'.trans Kp.push) (Heap.get?_push_size _ rfl))⟩))⟩
theorem rg_2 {e1 e2 : Expr} {p q : Pos} {a b : Int} (h1 : Xd P E e1 (.int a)) (h2 : Xd P E e2 (.int b)) (hs : noStar e1 = true) (hs' : noStar e2 = true) (hg : isGl P.names "range" = true) : Rg P E (.Call (.Name "range" p) [e1,e2] [] q) a b 1 := ⟨rfl,fun _ _ => rfl,fun f z s ok S Q X k => by
 refine call_bn ok S hg rfl rfl (by decide) keep_type (by rw [List.all_cons,hs,List.all_cons,hs']; rfl) ?_
 rw [star_cons hs]
 refine Calls.spliced_cons ?_
 show wpAny P.C.M f.A (eval e1 f.env) _ _ s
 refine h1 f z s ok S _ _ fun w s1 k1 r1 => args_one hs' (h2 f z s1 ok (S.kp k1) _ _ fun w2 s2 k2 r2 => ⟨(S.kp (k1.trans k2)).on,?_⟩)
 obtain ⟨t,rfl⟩ := Rd.int_inv r1
 obtain ⟨u,rfl⟩ := Rd.int_inv r2
 exact call_range_2 (k _ _ _ _ _ ((k1.trans k2).trans Kp.push) (Heap.get?_push_size _ rfl))⟩
theorem it_rg {e : Expr} {a b c : Int} (hu : P.un = true) (h : Rg P E e a b c) (ok' : rangeOk a b c = true) : It P E e (rangeL a b c) := ⟨h.2.1,fun f z s ok S Q X k => h.2.2 f z s ok S _ _ fun r s' t u v k' hr => k _ _ k' (iter_range (ok.un hu) hr ok')⟩
noncomputable def PureFn (P : Pr) (val : Value) (vs : List V) (v : V) : Prop :=
 ∀ (A : Around) (s : Shared) (lv : Addr → Prop) (z : Lc) (ws : List Value),z.lv = lv → (P.un = true → A.handled = none) → Rm P.C P.R A s → P.C.On s → P.C.lo ≤ s.heap.objs.size → (∀ b,lv b → ∃ o,s.heap.get? b = some o ∧ ∀ vs,o.data ≠ .fields vs) → All2 (VR P.C s.heap z) vs ws →
  ∀ Q X : Value → Shared → Prop,(∀ w s',Kp P.C.lo s s' → VR P.C s'.heap z v w → Q w s') → wpAny P.C.M A (call val ws) Q X s
theorem r_fn {x : Str} {val : Value} {args : List Expr} {p q : Pos} {vs : List V} {v : V} (h : PureFn P val vs v) (ha : Xs P E args vs) (hg : isGl P.names x = true) (hn : nsIn P.C.K mainGlobals x = some (some val)) (hk : keepIn P.C.K val = true) : Ex P E (.Call (.Name x p) args [] q) v := fun f z s ok S Q X k =>
 call_name S.on (keep_in hk) ha.1 (fun Q X q => name_global S.on ok.ok (gl_kind ok hg).1 hn (gl_kind ok hg).2 q) (ha.2 f z s _ ok S _ _ fun ws s' k' rs =>
  let S' := S.kp k'
  ⟨S'.on,h f.A s' z.lv z ws rfl ok.un S'.rm S'.on (S'.size ok) S'.lt rs Q X fun w s2 k2 => k w s2 (k'.trans k2)⟩)
end
end
section
noncomputable def Fx.re (f : Fx) (z : Lc) (s : Shared) : Fx := ⟨f.A,f.env,f.own,f.cl,s,z.lv,fun b => (f.Z b ∨ f.s₀.heap.get? b = none) ∧ (z.lv b ∨ ∃ x,(x,b) ∈ f.own) ∧ ∀ o,s.heap.get? b = some o → (o.cls = .type "tuple" → ∀ vs n,o.data ≠ .seq vs n) ∧ ∀ vs,o.data ≠ .fields vs,f.lvc,z⟩
section
variable {P : Pr} {f f' : Fx} {z z' : Lc} {E E' : StE} {s s' : Shared}
theorem EA.wb {h : Heap} {x : Str} {e : Ent} (he : f'.env = f.env) (hc : f'.lvc = f.lvc) (hw : ∀ a o,z.lv a → h.get? a = some o → LObj o ∨ TOb o → Wb P f a → Wb P f' a) (r : EA P f z h x e) : EA P f' z h x e := by
 cases r with
 | slot w sl r =>
  refine .slot w (he ▸ sl) ?_
  have : ∀ e : Ent,e.isL → EV P f z h x e w → EV P f' z h x e w := fun e l r => by
   obtain ⟨r1,r2,r3,o,r4,r5⟩ := r.live l
   exact .of l ⟨r1,r2,⟨hw _ o r2 r4 (.inl r5.ob) r3.toWb,hc ▸ r3.nc,he ▸ r3.nl,r3.lo⟩,o,r4,r5⟩
  cases e with
  | val v => exact r
  | tr T fin => exact r
  | live l => exact this _ trivial r
  | nds l => exact this _ trivial r
  | nats l => exact this _ trivial r
  | dic l => exact this _ trivial r
 | tr k t => exact .tr k ⟨t.L,t.ob,he ▸ t.nl,fun hf b p => let ⟨h1,h2⟩ := t.wr hf b p; let ⟨o,e,q⟩ := t.L.ob p; ⟨h1,hw b o h1 e (.inr q) h2⟩,fun h b p => hc ▸ t.nc h b p,fun h b p => hc ▸ t.lc h b p⟩
theorem St.re (ok : FOk P f) (S : St P f z E s) : FOk P (f.re z s) ∧ St P (f.re z s) z E s := by
 have cell : ∀ x c,(x,c) ∈ f.own → ∀ o,s.heap.get? c = some o → ∃ v,o.data = .cell v := fun x c hm o e => by
  obtain ⟨w,o',e',d⟩ := S.oc x c (List.mem_append_left _ hm)
  rw [e] at e'; cases e'; exact ⟨_,d⟩
 refine ⟨⟨ok.ok,ok.st,ok.gl,ok.cf,ok.ce,ok.ap,ok.ot,ok.lo,⟨ok.wl.h₀,.inl ⟨ok.wl.z,.inl S.ll,fun o e => ?_⟩⟩,fun x c hm => ⟨(ok.wo x c hm).h₀,.inl ⟨(ok.wo x c hm).z,.inr ⟨x,hm⟩,fun o e => ?_⟩⟩,fun b o hz e => ⟨?_,hz.2.2 o e⟩,ok.un,ok.gb,ok.tp⟩,
  ⟨S.on,S.rm,(Kp.refl ..).md,S.lt,fun b l => .inl l,S.ll,S.lu,S.ns,S.oc,fun x e he => (S.er x e he).wb (f := f) rfl rfl fun a o l e q w => ⟨w.h₀,.inl ⟨w.z,.inl l,fun o2 e2 => ?_⟩⟩,S.ij,fun _ => ⟨rfl,rfl,fun _ _ e => e⟩⟩⟩
 ·refine byG fun G9 k9 => ?_
  obtain ⟨m,o',_,_,e',d,_⟩ := S.ns
  refine k9 ?_
  clear k9 G9
  have e : s.heap.get? f.env.locals = some o := e
  rw [e] at e'; cases e'; rw [d]; exact ⟨nofun,nofun⟩
 ·obtain ⟨v,d⟩ := cell x c hm o e
  rw [d]; exact ⟨nofun,nofun⟩
 ·rcases hz.2.1 with l | ⟨x,hm⟩
  ·exact .inl l
  ·obtain ⟨v,d⟩ := cell x b hm o e
   exact .inr fun q => q.nc _ d
 ·rw [e] at e2; obtain rfl := Option.some.inj e2
  rcases q with q | q
  ·exact ⟨fun c => (q.nt c).elim,q.s.nd⟩
  ·exact ⟨fun _ => q.q,q.s.nd⟩
theorem St.back (ok : FOk P f) (S : St P f z E s) (S' : St P (f.re z s) z' E' s') : St P f z' E' s' := by
 have nZ : ∀ b o,f.s₀.heap.get? b = some o → ¬ f.Z b → ¬ (f.re z s).Z b := fun b o e n q => q.1.elim n fun q => by rw [q] at e; cases e
 refine ⟨S'.on,S'.rm,⟨fun b o e n => ?_,fun b o e hn => ?_,fun b o es ep e c d => ?_,S'.md.os.trans S.md.os,S.md.gens.trans S'.md.gens⟩,S'.lt,fun b l => ?_,S'.ll,S'.lu,S'.ns,S'.oc,fun x e he => (S'.er x e he).wb (f := f.re z s) rfl rfl fun a o _ _ _ w => ⟨w.h₀,w.z.elim (fun q => q.1) fun q => .inr (S.new ok q)⟩,S'.ij,fun h => let ⟨a1,a2,a3⟩ := S.zt h; let ⟨b1,b2,b3⟩ := S'.zt h; ⟨b1.trans a1,b2.trans a2,fun i a e => b3 i a (a3 i a e)⟩⟩
 ·obtain ⟨o1,e1,l1⟩ := S.md.heap b o e n
  obtain ⟨o2,e2,l2⟩ := S'.md.heap b o1 e1 (nZ b o e n)
  exact ⟨o2,e2,l1.trans l2⟩
 ·obtain ⟨o1,e1,l1⟩ := S.md.nf b o e hn
  exact S'.md.nf b o1 e1 l1
 ·refine byG fun G9 k9 => ?_
  obtain ⟨o1,es1,ep1,e1,c1,d1⟩ := S.md.fr b o es ep e c d
  refine k9 ?_
  clear k9 G9
  exact S'.md.fr b o1 es1 ep1 e1 c1 d1
 ·rcases S'.lb b l with q | q
  ·exact S.lb b q
  ·exact .inr (S.new ok q)
theorem St.stable (ok : FOk P f) (S : St P f z E s) : Stable f.s₀.heap f.lv₀ s.heap z.lv :=
 ⟨fun b o e n c => S.md.get e (fun q => (ok.zl b o q e).1.elim n fun q => q c) c.nf,fun b o vs n e c d => S.md.get e (fun q => (ok.zl b o q e).2.1 c vs n d) (ne_tf c),fun b o e _ l => (S.lb b l).elim id fun q => by rw [q] at e; cases e⟩
noncomputable def freezeP (p : Str → Bool) (E : StE) : StE := fun x => match E x with
 | some (.live l) => if p x then some (.val (.dat (.list l))) else some (.live l)
 | o => o
theorem VR.less {C : Cx} {h : Heap} {lv' : Addr → Prop} (hl : ∀ b,lv' b → z.lv b) : ∀ {v : V} {w : Value},VR C h z v w → VR C h ⟨lv',z.kt,z.dx,z.ad,z.pl⟩ v w
 | .dat _,_,r => Rd.less r hl
 | .nd _,_,r => r
 | .tab _,_,r => r
 | .kt,_,r => r
 | .raw _,_,r => r
 | .dic _,_,⟨a,o,e,lo,h1,h2,r⟩ => ⟨a,o,e,lo,h1,fun l => h2 (hl a l),r.mono (fun _ _ _ _ e _ _ => e) fun _ _ r => Rd.less r hl⟩
 | .set _,_,⟨a,o,n,e,h1,h2,r⟩ => ⟨a,o,n,e,h1,fun l => h2 (hl a l),r⟩
theorem St.freeze (S : St P f z E s) (p : Str → Bool) : ∃ z',(∀ b,z'.lv b → z.lv b) ∧ St P f z' (freezeP p E) s := by
 have key : ∀ x l,E x = some (.live l) → ∃ vs n,s.heap.get? (z.pl x) = some (lobj vs n) ∧ Slot f.env s.heap x (.ref (z.pl x)) ∧ Rds s.heap z.lv vs l ∧ Wl P f (z.pl x) ∧ z.lv (z.pl x) := fun x l h => by
  refine byG fun G9 k9 => ?_
  obtain ⟨r1,r2,r3,o,r4,vs,n,rfl,r5⟩ := (S.er x _ h).live (e := .live l) trivial
  refine k9 ?_
  clear k9 G9
  exact ⟨vs,n,r4,r1,r5,r3,r2⟩
 let G : Addr → Prop := fun b => ∃ x l,p x = true ∧ E x = some (.live l) ∧ z.pl x = b
 have less : ∀ b,z.lv b ∧ ¬ G b → z.lv b := fun b h => h.1
 have hE : ∀ x e,freezeP p E x = some e → (∃ l,p x = true ∧ E x = some (.live l) ∧ e = .val (.dat (.list l))) ∨ (E x = some e ∧ ∀ l,p x = true → e ≠ .live l) := fun x e h => by
  unfold freezeP at h
  split at h
  ·rename_i l hx
   split at h
   ·rename_i hp; obtain rfl := Option.some.inj h; exact .inl ⟨l,hp,hx,rfl⟩
   ·rename_i hp; obtain rfl := Option.some.inj h; exact .inr ⟨hx,fun _ q => absurd q hp⟩
  ·rename_i hn
   exact .inr ⟨h,fun l _ q => hn l (q ▸ h)⟩
 refine ⟨⟨fun b => z.lv b ∧ ¬ G b,z.kt,z.dx,z.ad,z.pl⟩,less,⟨S.on,S.rm,S.md,fun b l => S.lt b l.1,fun b l => S.lb b l.1,⟨S.ll,fun g => ?_⟩,fun b l => ⟨S.lu b l,fun ⟨x,l2,_,h,q⟩ => (key x l2 h).choose_spec.choose_spec.2.2.2.1.nc (q ▸ l)⟩,S.ns,S.oc,fun x e h => ?_,fun x y e e' h1 h2 l1 l2 q => ?_,S.zt⟩⟩
 ·obtain ⟨x,l,_,h,q⟩ := g
  exact (key x l h).choose_spec.choose_spec.2.2.2.1.nl q
 ·rcases hE x e h with ⟨l,hp,hx,rfl⟩ | ⟨hx,hn⟩
  ·obtain ⟨vs,n,r4,r1,r5,_⟩ := key x l hx
   exact .slot _ r1 (Rd.list ⟨_,r4,rfl,n,rfl⟩ (r5.less less) fun q => q.2 ⟨x,l,hp,hx,rfl⟩)
  ·have lk : e.isL → EA P f ⟨fun b => z.lv b ∧ ¬ G b,z.kt,z.dx,z.ad,z.pl⟩ s.heap x e := fun hl => by
    obtain ⟨r1,r2,r3,o,r4,r5⟩ := (S.er x e hx).live hl
    refine .slot _ r1 (.of hl ⟨rfl,⟨r2,fun ⟨y,l,hp,hy,q⟩ => ?_⟩,r3,o,r4,?_⟩)
    ·have := S.ij y x _ e hy hx trivial hl q
     subst this
     rw [hx] at hy; obtain rfl := Option.some.inj hy
     exact hn l hp rfl
    ·cases e with
     | live l => obtain ⟨vs,n,q,r⟩ := r5; exact ⟨vs,n,q,r.less less⟩
     | dic D => exact ⟨r5.1,r5.2.mono (fun _ _ _ _ e _ _ => e) fun _ _ r => VR.less less r⟩
     | _ => exact r5
   cases e with
   | val v => obtain ⟨w,sl,r⟩ := (S.er x _ hx).val; exact .slot w sl (r.less less)
   | tr T fin =>
    have t := (S.er x _ hx).tree
    exact .tr (S.er x _ hx).key ⟨t.L,t.ob,t.nl,fun hf b pl => ⟨⟨(t.wr hf b pl).1,fun ⟨y,l,_,h,q⟩ => let ⟨_,_,r3,_,r4,r5⟩ := (S.er y _ h).live (e := .live l) trivial; t.ne r3 r5 r4 (q ▸ pl)⟩,(t.wr hf b pl).2⟩,t.nc,t.lc⟩
   | live l => exact lk trivial
   | nds l => exact lk trivial
   | nats l => exact lk trivial
   | dic l => exact lk trivial
 ·rcases hE x e h1 with ⟨l,_,_,rfl⟩ | ⟨h1,_⟩
  ·exact l1.elim
  ·rcases hE y e' h2 with ⟨l,_,_,rfl⟩ | ⟨h2,_⟩
   ·exact l2.elim
   ·exact S.ij x y e e' h1 h2 l1 l2 q
end
inductive Fl where
 | next | brk | cont
 | ret (v : V)
noncomputable def FlowIs (C : Cx) (z : Lc) (h : Heap) : Fl → Flow → Prop
 | .next,f => f = .next
 | .brk,f => f = .brk
 | .cont,f => f = .cont
 | .ret v,f => ∃ w,f = .ret w ∧ VR C h z v w
inductive Aft (P : Pr) (f : Fx) (Q : Fl → StE → Prop) (fw : Flow) (s : Shared) : Prop
 | mk (fl : Fl) (E : StE) (z : Lc) (S : St P f z E s) (h : FlowIs P.C z s.heap fl fw) (q : Q fl E)
noncomputable def WS (P : Pr) (E : StE) (st : Stmt) (Q : Fl → StE → Prop) : Prop :=
 ∀ f z s,FOk P f → St P f z E s → ∀ X,wpAny P.C.M f.A (exec st f.env) (Aft P f Q) X s
noncomputable def W (P : Pr) (E : StE) (b : List Stmt) (Q : Fl → StE → Prop) : Prop :=
 ∀ f z s,FOk P f → St P f z E s → ∀ X,wpAny P.C.M f.A (execs b f.env) (Aft P f Q) X s
section
variable {P : Pr} {E : StE} {Q : Fl → StE → Prop} {r : List Stmt}
theorem Aft.mono {f : Fx} {Q' : Fl → StE → Prop} {fw : Flow} {s : Shared} (k : ∀ fl E,Q fl E → Q' fl E) : Aft P f Q fw s → Aft P f Q' fw s
 | ⟨fl,E,z,S,h,q⟩ => ⟨fl,E,z,S,h,k fl E q⟩
theorem WS.mono {b : Stmt} {Q' : Fl → StE → Prop} (h : WS P E b Q) (k : ∀ fl E,Q fl E → Q' fl E) : WS P E b Q' := fun f z s ok S X => wpAny_mono (h f z s ok S X) (fun _ _ => .mono k) fun _ _ => id
theorem W_nil (h : Q .next E) : W P E [] Q := fun f z s ok S X => wpAny_execs_nil ⟨.next,E,z,S,rfl,h⟩
noncomputable def Aft2 (P : Pr) (r : List Stmt) (Q : Fl → StE → Prop) : Fl → StE → Prop
 | .next,E' => W P E' r Q
 | fl,E' => Q fl E'
theorem W_cons {st : Stmt} (h : WS P E st (Aft2 P r Q)) : W P E (st :: r) Q := fun f z s ok S X =>
 wpAny_execs_cons (wpAny_mono (h f z s ok S X) (fun fw s' ⟨fl,E',z',S',h,q⟩ => by
  cases fl with
  | next => cases h; exact q f z' s' ok S' X
  | brk => cases h; exact ⟨.brk,_,_,S',rfl,q⟩
  | cont => cases h; exact ⟨.cont,_,_,S',rfl,q⟩
  | ret v => obtain ⟨w,rfl,h⟩ := h; exact ⟨.ret v,_,_,S',⟨w,rfl,h⟩,q⟩) fun _ _ => id)
theorem W_one {st : Stmt} {I : StE → Prop} (h : WS P E st fun fl E' => fl = .next ∧ I E') (k : ∀ E',I E' → W P E' r Q) : W P E (st :: r) Q :=
 W_cons (h.mono fun fl E' ⟨e,i⟩ => by subst e; exact k E' i)
theorem W_if {t : Expr} {b o : List Stmt} {sp : Pos} {c : Bool} (hc : Xt P E t c) (h : W P E (if c then b else o) Q) : WS P E (.If t b o sp) Q := fun f z s ok S X =>
 wpAny_If (hc f z s ok S _ _ fun s' k => by
  have := h f z s' ok (S.kp k) X
  cases c <;> exact this)
theorem W_ret {e : Expr} {sp : Pos} {v : V} (h : Ex P E e v) (q : Q (.ret v) E) : WS P E (.Return (some e) sp) Q := fun f z s ok S X =>
 wpAny_Return_some (h f z s ok S _ _ fun w s' k r => ⟨.ret v,E,z,S.kp k,⟨w,rfl,r⟩,q⟩)
theorem WS_set {x : Str} {xp sp : Pos} {e : Expr} {v : V} (hx : isLC P.names x = true) (ho : okName x = true) (h : Ex P E e v) (hs : ∀ env,swapsWith e (some (.Name x xp)) sp.line env = pure false) : WS P E (.Assign [.Name x xp] e sp) fun fl E' => fl = .next ∧ E' = setE E x (.val v) := fun f z s ok S X =>
 wpAny_Assign_Name (h f z s ok S _ _ fun w s' k r => (S.kp k).store ok hx ho r fun s2 S2 _ _ => ⟨.next,_,z,S2,rfl,rfl,rfl⟩) (hs f.env)
theorem W_frz {b : List Stmt} (p : Str → Bool) (h : W P (freezeP p E) b Q) : W P E b Q := fun f z s ok S X => let ⟨z',_,S'⟩ := S.freeze p; h f z' s ok S' X
theorem St.adopt {f : Fx} {z : Lc} {s s' : Shared} {a : Addr} {o : Obj} (ok : FOk P f) (S : St P f z E s) (k : Kp P.C.lo s s') (hn : s.heap.get? a = none) (ha : s'.heap.get? a = some o) (hf : ∀ vs,o.data ≠ .fields vs) : St P f ⟨fun b => z.lv b ∨ b = a,z.kt,z.dx,z.ad,z.pl⟩ E s' :=
 S.move (W := fun _ => False) k.md (fun _ h => h.elim) ⟨⟨(k.stable z.lv).keep,(k.stable z.lv).tup,fun b o e _ l => l.elim id fun q => by rw [q,hn] at e; cases e⟩,fun b l => l.imp id fun q => ⟨by rw [q]; exact S.new ok hn,o,by rw [q]; exact ha,hf⟩,fun b l => .inl l,rfl,rfl,fun _ _ e => e⟩ (fun x e h => .inl ⟨h,rfl,fun _ => id,fun _ _ _ => ⟨rfl,rfl,fun _ _ => id⟩⟩) S.ij
theorem St.bornJ {f : Fx} {z : Lc} {s s1 s2 s3 : Shared} {a b : Addr} {o : Obj} {x : Str} {e : Ent} (ok : FOk P f) (S : St P f z E s) (k : Kp P.C.lo s s1) (sa : StoreAt P f x (.ref a) s1 s2 b) (J : Jk s s2 s3) (lo : P.C.lo ≤ a) (hn : s.heap.get? a = none) (ha : s3.heap.get? a = some o) (hl : e.isL) (ho : okName x = true)
  (hv : LV P s3.heap ⟨fun b => z.lv b ∨ b = a,z.kt,z.dx,z.ad,fun y => if y = x then a else z.pl y⟩ e o) : ∃ z',St P f z' (setE E x e) s3 := by
 have hp : (if x = x then a else z.pl x) = a := if_pos rfl
 refine ⟨_,(S.stored (z' := ⟨fun b => z.lv b ∨ b = a,z.kt,z.dx,z.ad,fun y => if y = x then a else z.pl y⟩) ok k sa J ho (fun b l => l.imp id fun q => by rw [q]; exact ⟨hn,o,ha,hv.ob.s.nd⟩) (fun _ => .inl) ⟨rfl,rfl,rfl⟩ (fun y hy => if_neg hy) (fun u => ?_) fun _ y e' hy he l q => ?_).1⟩
 ·exact .of hl ⟨congrArg Value.ref hp.symm,.inr hp,(show Wl P f (if x = x then a else z.pl x) from Eq.mpr (congrArg (Wl P f) hp) (S.wl ok hn lo)),o,(congrArg s3.heap.get? hp).trans ha,hv⟩
 ·have q : z.pl y = a := q.trans hp
  obtain ⟨_,_,_,o2,e2,_⟩ := (S.er y e' he).live l
  rw [q,hn] at e2; cases e2
theorem St.born {f : Fx} {z : Lc} {s s' : Shared} {a : Addr} {o : Obj} {x : Str} {e : Ent} {Q : Unit → Shared → Prop} {X : Value → Shared → Prop} (ok : FOk P f) (S : St P f z E s) (k : Kp P.C.lo s s') (lo : P.C.lo ≤ a) (hn : s.heap.get? a = none) (ha : s'.heap.get? a = some o) (hl : e.isL) (hx : isLC P.names x = true) (ho : okName x = true)
  (hv : LV P s'.heap ⟨fun b => z.lv b ∨ b = a,z.kt,z.dx,z.ad,z.pl⟩ e o) (h : ∀ z' s2,St P f z' (setE E x e) s2 → FKeep s' s2 → Q () s2) : wpAny P.C.M f.A (storeName f.env x (.ref a)) Q X s' :=
 have S1 := S.adopt ok k hn ha hv.ob.s.nd
 have hp : (if x = x then a else z.pl x) = a := if_pos rfl
 store_wp ok S1.ns S1.oc hx fun s2 b sa fk =>
  h _ s2 (S1.stored (z' := ⟨fun b => z.lv b ∨ b = a,z.kt,z.dx,z.ad,fun y => if y = x then a else z.pl y⟩) ok (.refl ..) sa ⟨fun _ _ _ _ e => e,rfl,rfl⟩ ho (fun _ => .inl) (fun _ => id) ⟨rfl,rfl,rfl⟩ (fun y hy => if_neg hy) (fun u => .of hl ⟨congrArg Value.ref hp.symm,.inr hp,(show Wl P f (if x = x then a else z.pl x) from Eq.mpr (congrArg (Wl P f) hp) (S.wl ok hn lo)),o,(congrArg s2.heap.get? hp).trans (sa.kept ha (S.wl ok hn lo).nl hv.ob.s.nc),hv.up u⟩) fun _ y e' hy he l q => by
    have q : z.pl y = a := q.trans hp
    obtain ⟨_,_,_,o2,e2,_⟩ := (S.er y e' he).live l
    rw [q,hn] at e2; cases e2).1 fk
theorem WS_new {x : Str} {xp sp : Pos} {e : Expr} {xs : List PyData} (hx : isLC P.names x = true) (ho : okName x = true) (h : Xl P E e xs) (hs : ∀ env,swapsWith e (some (.Name x xp)) sp.line env = pure false) : WS P E (.Assign [.Name x xp] e sp) fun fl E' => fl = .next ∧ E' = setE E x (.live xs) := fun f z s ok S X =>
 wpAny_Assign_Name (h f z s ok S _ _ fun a vs n s' k lo hn ha r => S.born ok k lo hn ha (e := .live xs) trivial hx ho ⟨vs,n,rfl,r⟩ fun z' s2 S2 _ => ⟨.next,_,z',S2,rfl,rfl,rfl⟩) (hs f.env)
end
end
section
noncomputable def nameOf : Expr → Option Str
 | .Name x _ => some x
 | _ => none
noncomputable def pairOf {α : Type} : List α → Option (α × α)
 | [a,b] => some (a,b)
 | _ => none
noncomputable def tupOf : PyData → Option (List PyData)
 | .tuple ds => some ds
 | _ => none
noncomputable def bindE (P : Pr) (t : Expr) (E : StE) (d : PyData) : Option StE := match t with
 | .Name x _ => if isLC P.names x && okName x then some (setE E x (.val (.dat d))) else none
 | .Tuple es _ _ => (pairOf es).bind fun p => (nameOf p.1).bind fun x => (nameOf p.2).bind fun y => (tupOf d).bind fun ds => (pairOf ds).bind fun q => if isLC P.names x && okName x && (isLC P.names y && okName y) then some (setE (setE E x (.val (.dat q.1))) y (.val (.dat q.2))) else none
 | _ => none
theorem nameOf_inv {e : Expr} {x : Str} (h : nameOf e = some x) : ∃ p,e = .Name x p := by
 cases e with
 | Name y p => exact ⟨p,by rw [Option.some.inj h]⟩
 | _ => cases h
theorem pairOf_inv {α : Type} {l : List α} {p : α × α} (h : pairOf l = some p) : l = [p.1,p.2] := by
 cases l with
 | nil => cases h
 | cons a l => cases l with
  | nil => cases h
  | cons b l => cases l with
   | nil => cases h; rfl
   | cons c l => cases h
theorem tupOf_inv {d : PyData} {ds : List PyData} (h : tupOf d = some ds) : d = .tuple ds := by
 cases d with
 | tuple _ => exact congrArg PyData.tuple (Option.some.inj h)
 | _ => cases h
inductive BindI (P : Pr) (E : StE) : Expr → PyData → StE → Prop
 | name {x : Str} {p : Pos} {d : PyData} (c1 : isLC P.names x = true) (c2 : okName x = true) : BindI P E (.Name x p) d (setE E x (.val (.dat d)))
 | pair {x y : Str} {p q r : Pos} {k : Nat} {a b : PyData} (c1 : isLC P.names x = true) (c2 : okName x = true) (c3 : isLC P.names y = true) (c4 : okName y = true) : BindI P E (.Tuple [.Name x p,.Name y q] k r) (.tuple [a,b]) (setE (setE E x (.val (.dat a))) y (.val (.dat b)))
theorem bindE_inv {P : Pr} {t : Expr} {E E2 : StE} {d : PyData} (h : bindE P t E d = some E2) : BindI P E t d E2 := by
 cases t with
 | Name x p =>
  obtain ⟨hc,rfl⟩ := some_if h
  rw [Bool.and_eq_true] at hc
  exact .name hc.1 hc.2
 | Tuple es k r =>
  refine byG fun G9 k9 => ?_
  obtain ⟨p,h1,h⟩ := Option.bind_eq_some_iff.mp h
  obtain ⟨x,h2,h⟩ := Option.bind_eq_some_iff.mp h
  obtain ⟨y,h3,h⟩ := Option.bind_eq_some_iff.mp h
  obtain ⟨ds,h4,h⟩ := Option.bind_eq_some_iff.mp h
  obtain ⟨q,h5,h⟩ := Option.bind_eq_some_iff.mp h
  obtain ⟨hc,rfl⟩ := some_if h
  obtain ⟨p1,p2⟩ := p
  obtain ⟨_,e1⟩ := nameOf_inv h2
  obtain ⟨_,e2⟩ := nameOf_inv h3
  refine k9 ?_
  clear k9 G9
  rw [pairOf_inv h1,e1,e2,tupOf_inv h4,pairOf_inv h5]
  simp only [Bool.and_eq_true] at hc
  exact .pair hc.1.1 hc.1.2 hc.2.1 hc.2.2
 | _ => cases h
noncomputable def LpQ (I : StE → Prop) (Q : Fl → StE → Prop) : Fl → StE → Prop
 | .next,E => I E
 | .cont,E => I E
 | .brk,E => Q .next E
 | .ret v,E => Q (.ret v) E
noncomputable def Kpt (z : Lc) (b : Addr) (o : Obj) : Prop := o.cls ≠ .type "frame" ∧ ((∃ vs,o.data = .fields vs) ∨ Frz z.lv b o)
theorem letOwned {M : Model} {A : Around} {t : Expr} {I : Addr} {v : Value} {s : Shared} {Q : Unit → Shared → Prop} {E : Value → Shared → Prop}
  (h : ∃ o n vs,s.heap.get? I = some o ∧ o.cls = .type n ∧ o.data = .fields vs ∧ (["enumerate","zip","dict_itemiterator","dict_reverseitemiterator","odict_iterator","itertools.zip_longest","itertools.pairwise"].contains n) = false) (q : Q () s) :
  wpAny M A (letOwnedTupleGo t (.ref I) v) Q E s := by
 refine byG fun G9 k9 => ?_
 obtain ⟨o,n,vs,e,hc,hd,hn⟩ := h
 refine k9 ?_
 clear k9 G9
 have key : ∀ a,wpAny M A (do
   let o ← load I
   match o.cls,o.data with
   | .type n,.fields vs =>
    if ["enumerate","zip","dict_itemiterator","dict_reverseitemiterator","odict_iterator","itertools.zip_longest","itertools.pairwise"].contains n && vs[0]? == some (rawInt a) then
     rule "for.unpacks-the-owned-tuple"
     updateField I 0 .none
   | _,_ => pure ()) Q E s := fun a => by
  refine wpAny_bind (wpAny_load e ?_)
  rw [hc,hd]
  simp only [hn,Bool.false_and,Bool.false_eq_true,if_false]
  exact wpAny_pure q
 cases t <;> first
  | exact wpAny_pure q
  | (cases v <;> first
    | exact wpAny_pure q
    | exact key _)
section
variable {P : Pr} {f : Fx} {z z' : Lc} {E E' : StE} {s s' : Shared}
theorem St.kept (ok : FOk P f) (S : St P f z E s) (S' : St P (f.re z s) z' E' s') {b : Addr} {o : Obj} (e : s.heap.get? b = some o) (h : Kpt z b o) : s'.heap.get? b = some o ∧ Kpt z' b o := by
 refine ⟨S'.md.get e (fun q => ?_) h.1,h.1,h.2.imp id fun q => q.imp id fun ⟨so,nl⟩ => ⟨so,fun l => (S'.lb b l).elim nl fun q => none_some (Eq.trans (Eq.symm q) e)⟩⟩
 obtain ⟨_,q2,q3⟩ := q
 obtain ⟨q3,q4⟩ := q3 o e
 rcases h.2 with ⟨vs,d⟩ | ⟨t,vs,n,d⟩ | ⟨so,t⟩
 ·exact q4 vs d
 ·exact q3 t vs n d
 ·rcases q2 with q2 | ⟨x,hm⟩
  ·exact t q2
  ·obtain ⟨w,o',e',d'⟩ := S.oc x b (List.mem_append_left _ hm)
   exact so.nc _ (get_eq e e' ▸ d')
theorem two_of {h : Heap} {lv : Addr → Prop} {vs : List Value} {a b : PyData} (r : Rds h lv vs [a,b]) : ∃ x y,vs = [x,y] ∧ Rd h lv x a ∧ Rd h lv y b := by
 refine byG fun G9 k9 => ?_
 obtain ⟨x,hx,r1⟩ := r.get (i := 0) rfl
 obtain ⟨y,hy,r2⟩ := r.get (i := 1) rfl
 refine k9 ?_
 clear k9 G9
 exact ⟨x,y,List.ext_getElem? fun
  | 0 => hx
  | 1 => hy
  | n + 2 => (List.getElem?_eq_none (by rw [r.length]; exact Nat.le_add_left 2 n)).trans rfl,r1,r2⟩
theorem St.bindE (ok : FOk P f) (hu : P.un = true) (S : St P f z E s) {t : Expr} {d : PyData} {w : Value} (hb : bindE P t E d = some E') (r : Rd s.heap z.lv w d) {Q : Unit → Shared → Prop} {X : Value → Shared → Prop}
  (h : ∀ s',St P f z E' s' → Stable s.heap z.lv s'.heap z.lv → FKeep s s' → Q () s') : wpAny P.C.M f.A (assign t f.env w) Q X s := by
 cases bindE_inv hb with
 | name c1 c2 => exact wpAny_assign_Name (S.store ok c1 c2 (v := .dat d) r h)
 | pair c1 c2 c3 c4 =>
  refine byG fun G k => ?_
  obtain ⟨ad,vs,rfl,ht,hr⟩ := r.tuple_inv
  obtain ⟨va,vb,rfl,r1,r2⟩ := two_of hr
  refine k ?_
  refine assign_Tuple_tuple (ok.un hu) ht rfl rfl fun h' he' => ?_
  have k : Kp P.C.lo s { s with heap := h' } := Kp.of_keep (tk := s.toks) fun b o e => he' b o (ne_size e) e
  refine wpAny_bind (wpAny_holding (wpAny_assign_Name ((S.kp k).store ok c1 c2 (v := .dat _) (Rd.kp r1 k) fun s2 S2 st2 fk2 => ?_)))
  refine wpAny_bind (wpAny_holding (wpAny_assign_Name (S2.store ok c3 c4 (v := .dat _) ((Rd.kp r2 k).mono st2) fun s3 S3 st3 fk3 => wpAny_pure ?_)))
  exact h s3 S3 (((k.stable _).trans' st2).trans' st3) fun b o e d c => fk3 b o (fk2 b o (he' b o (ne_size e) e) d c) d c
theorem loop_out {Q : Fl → StE → Prop} {f' : Fx} {I' : StE → Prop} {G : Prop} {fw : Flow} (x : Aft P f' (LpQ I' Q) fw s) (bk : ∀ z' E',St P f' z' E' s → St P f z' E' s) (nx : ∀ z' E',St P f' z' E' s → I' E' → G) :
  match (generalizing := false) fw with
  | .next | .cont => G
  | .brk => Aft P f Q .next s
  | .ret v => Aft P f Q (.ret v) s := by
 obtain ⟨fl,E',z',S',h,q⟩ := x
 cases fl with
 | next => cases h; exact nx _ _ S' q
 | cont => cases h; exact nx _ _ S' q
 | brk => cases h; exact ⟨.next,_,_,bk _ _ S',rfl,q⟩
 | ret v => obtain ⟨w,rfl,r⟩ := h; exact ⟨.ret v,_,_,bk _ _ S',⟨w,rfl,r⟩,q⟩
inductive FoI (P : Pr) (f : Fx) (I : Nat → StE → Prop) (items : List PyData) (fp : List Addr) (Pv : Nat → Value → Prop) (Sv : Nat → Heap → Prop) (m : Nat) (s : Shared) : Prop
 | mk (i : Nat) (z : Lc) (E : StE) (hi : i ≤ items.length) (hm : m = items.length - i) (S : St P f z E s) (hI : I i E) (st : Sv i s.heap) (rd : ∀ j v,j < items.length → Pv j v → ∃ d,items[j]? = some d ∧ Rd s.heap z.lv v d) (sep : ∀ b ∈ fp,∃ o,s.heap.get? b = some o ∧ Kpt z b o)
theorem Itr.sep' {C : Cx} {A : Around} {lv : Addr → Prop} {I : Addr} {fp : List Addr} {Pv : Nat → Value → Prop} {Sv : Nat → Heap → Prop} {items : List PyData} (U : Itr C A lv I fp Pv Sv items s) (hl : z.lv = lv) : ∀ b ∈ fp,∃ o,s.heap.get? b = some o ∧ Kpt z b o := fun b hb => by
 subst hl
 rcases U.sep b hb with rfl | ⟨o,e,h⟩
 ·refine byG fun G9 k9 => ?_
  obtain ⟨o,n,vs,e,_,d,_⟩ := U.own _ _ U.st
  refine k9 ?_
  clear k9 G9
  exact ⟨o,e,U.nf _ _ U.st b hb o e,.inl ⟨vs,d⟩⟩
 ·exact ⟨o,e,U.nf _ _ U.st b hb o e,.inr h⟩
theorem WS_for {t it : Expr} {body : List Stmt} {sp : Pos} {items : List PyData} {Q : Fl → StE → Prop} (I : Nat → StE → Prop) (hu : P.un = true) (hi : It P E it items) (h0 : I 0 E)
  (hs : ∀ i d E,items[i]? = some d → I i E → ∃ E2,bindE P t E d = some E2 ∧ W P E2 body (LpQ (I (i + 1)) Q)) (k : ∀ E',I items.length E' → Q .next E') : WS P E (.For t it body [] sp) Q := fun f z s ok S X => by
 refine wpAny_For (hi.2 f z s ok S _ _ fun xv s1 k1 J => J _ _ fun I0 fp Pv Sv s2 k2 hI hIf hfp U => ?_) (hi.1 f.env)
 have S1 := S.kp k1
 have wI := S1.wb ok hI
 refine codeAny_forLoop_any (FoI P f I items fp Pv Sv) (fun n s' hinv => ?_) items.length ⟨0,z,E,Nat.zero_le _,rfl,S1.kp k2,h0,U.st,U.rd,U.sep' rfl⟩
 refine byG fun G0 k0 => ?_
 obtain ⟨i,z',Ei,hi',hm,S',hIi,st',rd',sep'⟩ := hinv
 obtain ⟨oI,nI,vI,eI,cI,dI,kI⟩ := U.own _ _ st'
 refine (Nat.lt_or_ge i items.length).elim (fun hlt => ?_) fun hge => ?_
 ·refine k0 ?_
  refine U.W.item i s' _ _ hlt st' fun v h1 tk1 hPv st1 hk1 => ?_
  obtain ⟨SA,stA⟩ := S'.tick (tk := tk1) eI dI wI hk1
  refine byG fun G1 k1 => ?_
  obtain ⟨d,hd,rv⟩ := rd' i v hlt hPv
  obtain ⟨E2,hb,hw⟩ := hs i d Ei hd hIi
  have okr := (SA.re ok).1
  refine k1 ?_
  refine letOwned (U.own _ _ st1) ?_
  refine (SA.re ok).2.bindE okr hu hb (rv.mono stA) fun s3 S3 st3 fk3 => ?_
  refine wpAny_mono (hw _ _ s3 okr S3 _) (fun fw s4 x => loop_out x (fun _ _ => SA.back ok) fun z4 E4 S4 hI4 => ?_) fun _ _ => id
  have sepA : ∀ b ∈ fp,∃ o,h1.get? b = some o ∧ Kpt z' b o := fun b hb => by
   by_cases hbI : b = I0
   ·rw [hbI]
    refine byG fun G9 k9 => ?_
    obtain ⟨o,n,vs,e,_,d,_⟩ := U.own _ _ st1
    refine k9 ?_
    clear k9 G9
    exact ⟨o,e,U.nf _ _ st1 I0 (hbI ▸ hb) o e,.inl ⟨vs,d⟩⟩
   ·obtain ⟨o,e,q⟩ := sep' b hb
    exact ⟨o,hk1 b o (fun m => hbI (List.mem_singleton.mp m)) e,q⟩
  refine ⟨items.length - (i + 1),hm ▸ Nat.sub_succ_lt_self _ _ hlt,i + 1,z4,E4,hlt,rfl,SA.back ok S4,hI4,U.W.frame _ _ _ st1 fun b hb o e => ?_,fun j w hj hw => ?_,fun b hb => ?_⟩
  ·obtain ⟨o',e',q⟩ := sepA b hb
   exact (SA.kept ok S4 e (get_eq e e' ▸ q)).1
  ·obtain ⟨d',e',r'⟩ := rd' j w hj hw
   exact ⟨d',e',(r'.mono stA).mono (S4.stable okr)⟩
  ·obtain ⟨o',e',q⟩ := sepA b hb
   exact ⟨o',SA.kept ok S4 e' q⟩
 ·have hin : items.length = i := Nat.le_antisymm hge hi'
  refine k0 ?_
  refine U.W.done s' _ _ (hin ▸ st') fun h1 tk1 hk1 => ?_
  exact wpAny_execs_nil ⟨.next,_,_,(S'.tick (tk := tk1) eI dI wI hk1).1,rfl,k _ (hin ▸ hIi)⟩
inductive WI (P : Pr) (f : Fx) (I : Nat → StE → Prop) (m : Nat) (s : Shared) : Prop
 | mk (z : Lc) (E : StE) (S : St P f z E s) (hI : I m E)
theorem WS_while {t : Expr} {body : List Stmt} {sp : Pos} {Q : Fl → StE → Prop} (I : Nat → StE → Prop) (m : Nat) (h0 : I m E)
  (hs : ∀ m E,I m E → (Xt P E t false ∧ Q .next E) ∨ ∃ m',m = m' + 1 ∧ Xt P E t true ∧ W P E body (LpQ (I m') Q)) : WS P E (.While t body [] sp) Q := fun f z s ok S X => by
 refine wpAny_While (codeAny_whileLoop (WI P f I) (fun n s' hinv => ?_) m ⟨z,E,S,h0⟩)
 refine byG fun G0 k0 => ?_
 obtain ⟨z',Ei,S',hI⟩ := hinv
 rcases hs n Ei hI with ⟨ht,q⟩ | ⟨m',hm,ht,hw⟩
 ·exact k0 (ht f z' s' ok S' _ _ fun s1 k1 => wpAny_execs_nil ⟨.next,_,_,S'.kp k1,rfl,q⟩)
 ·exact k0 (ht f z' s' ok S' _ _ fun s1 k1 => wpAny_mono (hw f z' s1 ok (S'.kp k1) _) (fun fw s4 x => loop_out x (fun _ _ => id) fun z4 E4 S4 q4 => ⟨m',hm ▸ Nat.lt_succ_self _,z4,E4,S4,q4⟩) fun _ _ => id)
end
end
section
section
variable {P : Pr} {E : StE}
theorem live_name {x : Str} {p : Pos} {e : Ent} {f : Fx} {z : Lc} {s : Shared} (ok : FOk P f) (S : St P f z E s) (h : E x = some e) (l : e.isL) {Q X : Value → Shared → Prop} (q : ∀ o,s.heap.get? (z.pl x) = some o → LV P s.heap z e o → Q (.ref (z.pl x)) s) : wpAny P.C.M f.A (eval (.Name x p) f.env) Q X s :=
 let ⟨sl,_,_,o,e,r⟩ := (S.er x _ h).live l; sl.name ok.ok (q o e r)
theorem fn_inter {f : Fx} (ok : FOk P f) : interactive f.env = false := by unfold interactive; rw [ok.ok.kind]; rfl
theorem WS_app' {x : Str} {e : Expr} {xp ap cp sp : Pos} {en en' : Ent} {v : V} (h : E x = some en) (hl : en.isL) (hl' : en'.isL) (hline : (ap.endLine == cp.line) = true) (hst : noStar e = true) (hv : Ex P E e v)
  (h1 : ∀ (h : Heap) (z : Lc) o,LV P h z en o → ∃ vs n,o = lobj vs n ∧ vs.length < 2 ^ 20) (h2 : ∀ (h : Heap) (z : Lc) vs n n' w,LV P h z en (lobj vs n) → VR P.C h z v w → LV P h z en' (lobj (vs ++ [w]) n')) :
  WS P E (.Expr (.Call (.Attribute (.Name x xp) "append" ap) [e] [] cp) sp) fun fl E' => fl = .next ∧ E' = setE E x en' := fun f z s ok S X => by
 refine wpAny_Expr_any (call_attr rfl (by rw [star_cons hst]; rfl) hline (live_name ok S h hl fun o e0 r0 pl => ?_)) (fn_inter ok) rfl
 refine byG fun G9 k9 => ?_
 obtain ⟨vs0,n0,rfl,_⟩ := h1 _ _ _ r0
 refine k9 ?_
 clear k9 G9
 refine getMethod_builtin ⟨_,e0,rfl⟩ PySem.F.plainAttrs_list PySem.F.slot_list_append PySem.F.type_list_append (fun a q => by cases q; exact ⟨_,e0,rfl⟩) ?_
 refine callWith_args S.on keep_builtin (by rw [List.all_cons,hst]; rfl) (args_one hst (hv f z s ok S _ _ fun w s2 k2 r2 => ⟨S.on.kp k2,?_⟩))
 have S2 := S.kp k2
 refine byG fun G9 k9 => ?_
 obtain ⟨_,_,_,o2,e2,r2'⟩ := (S2.er x _ h).live hl
 obtain ⟨vs,n,rfl,hz⟩ := h1 _ _ _ r2'
 refine k9 ?_
 clear k9 G9
 refine wpAny_list_append_plain ⟨n,e2⟩ (fun h' ⟨n',hp'⟩ hs' => ?_) (by simp [sizeLine]; omega)
 have e3 : h'.get? (z.pl x) = some (lobj (vs ++ [w]) n') := by rw [hp']; unfold lobj; simp
 exact ⟨.next,_,z,(S2.wr (tk := s2.toks) (e' := en') h hl hl' e2 e3 ((fun _ q => Data.noConfusion q)) (fun b o hb e => (hs'.2 b hb).trans e) fun st => (h2 _ z vs n n' w r2' r2).up (f := f) (s := s2) (s' := { s2 with heap := h' }) (.refl st)).1,rfl,rfl,rfl⟩
theorem WS_app {x : Str} {e : Expr} {xp ap cp sp : Pos} {l : List PyData} {d : PyData} (h : E x = some (.live l)) (hz : l.length < 2 ^ 19) (hline : (ap.endLine == cp.line) = true) (hst : noStar e = true) (hv : Ex P E e (.dat d)) :
  WS P E (.Expr (.Call (.Attribute (.Name x xp) "append" ap) [e] [] cp) sp) fun fl E' => fl = .next ∧ E' = setE E x (.live (l ++ [d])) :=
 WS_app' h trivial trivial hline hst hv (fun h z o ⟨vs,n,e,r⟩ => ⟨vs,n,e,by rw [r.length]; omega⟩) fun h z vs n n' w ⟨vs',n2,e,r⟩ rw => ⟨vs ++ [w],n',rfl,by
  have : vs = vs' := by simpa [lobj] using congrArg Obj.data e |> fun q => (Data.seq.inj q).1
  subst this
  exact r.append (.cons rw .nil)⟩
theorem WS_appN {x : Str} {e : Expr} {xp ap cp sp : Pos} {l : List Nat} {i : Nat} (h : E x = some (.nds l)) (hz : l.length < 2 ^ 19) (hline : (ap.endLine == cp.line) = true) (hst : noStar e = true) (hv : Ex P E e (.nd i)) :
  WS P E (.Expr (.Call (.Attribute (.Name x xp) "append" ap) [e] [] cp) sp) fun fl E' => fl = .next ∧ E' = setE E x (.nds (l ++ [i])) :=
 WS_app' h trivial trivial hline hst hv (fun h z o ⟨vs,n,e,r⟩ => ⟨vs,n,e,by rw [← r.length]; omega⟩) fun h z vs n n' w ⟨vs',n2,e,r⟩ rw => ⟨vs ++ [w],n',rfl,by
  have : vs = vs' := by simpa [lobj] using congrArg Obj.data e |> fun q => (Data.seq.inj q).1
  subst this
  exact r.append (.cons rw .nil)⟩
end
end
section
noncomputable def closOf (env : Env) : List (Str × NameKind) → List (Str × Addr) → List (Str × Addr)
 | [],acc => acc
 | (n,k) :: r,acc => if k == .free then closOf env r ((n,(env.cells.lookup n).getD 0) :: acc) else closOf env r acc
theorem clos_loop {env : Env} (f : Str × NameKind → List (Str × Addr) → Sem (ForInStep (List (Str × Addr))))
  (hf : ∀ n k cs,f (n,k) cs = if k == .free then (do let a ← cellOf env n; pure (.yield ((n,a) :: cs))) else pure (.yield cs)) :
  ∀ (names : Nm) (acc : List (Str × Addr)),(∀ x ∈ names,x.2 = .free → (env.cells.lookup x.1).isSome = true) → forIn names acc f = pure (closOf env names acc)
 | [],acc,_ => rfl
 | (n,k) :: r,acc,h => by
  rw [List.forIn_cons,hf]
  unfold closOf
  split
  ·rename_i hk
   obtain ⟨a,ha⟩ := Option.isSome_iff_exists.mp (h (n,k) List.mem_cons_self (by simpa using hk))
   have hc : cellOf env n = pure a := by unfold cellOf; rw [ha]
   rw [hc,ha]
   exact clos_loop f hf r _ fun x hx => h x (List.mem_cons_of_mem _ hx)
  ·exact clos_loop f hf r _ fun x hx => h x (List.mem_cons_of_mem _ hx)
theorem closureFor_eq {env : Env} {sc : Scope} (h : ∀ x ∈ sc.names,x.2 = .free → (env.cells.lookup x.1).isSome = true) : closureFor sc env = pure (closOf env sc.names []) := by
 simp only [closureFor]
 rw [clos_loop (env := env) _ (fun n k cs => by cases hk : k == NameKind.free <;> simp [hk]) sc.names [] h]
 rfl
theorem closOf_mem {env : Env} : ∀ {names : Nm} {acc : List (Str × Addr)} {x : Str} {c : Addr},(x,c) ∈ closOf env names acc → (x,c) ∈ acc ∨ ((x,NameKind.free) ∈ names ∧ c = (env.cells.lookup x).getD 0)
 | [],_,_,_,h => .inl h
 | (n,k) :: r,acc,x,c,h => by
  unfold closOf at h
  split at h
  ·rename_i hk
   have hk : k = .free := by simpa using hk
   subst hk
   rcases closOf_mem h with h | h
   ·rcases List.mem_cons.mp h with e | h
    ·cases e; exact .inr ⟨List.mem_cons_self,rfl⟩
    ·exact .inl h
   ·exact .inr ⟨List.mem_cons_of_mem _ h.1,h.2⟩
  ·rcases closOf_mem h with h | h
   ·exact .inl h
   ·exact .inr ⟨List.mem_cons_of_mem _ h.1,h.2⟩
theorem closOf_acc {env : Env} : ∀ {names : Nm} {acc : List (Str × Addr)} {x : Str},acc.lookup x = some ((env.cells.lookup x).getD 0) → (closOf env names acc).lookup x = some ((env.cells.lookup x).getD 0)
 | [],_,_,h => h
 | (n,k) :: r,acc,x,h => by
  unfold closOf
  split
  ·refine closOf_acc ?_
   rw [List.lookup_cons]
   cases hx : x == n with
   | true => rw [eq_of_beq hx]
   | false => exact h
  ·exact closOf_acc h
theorem closOf_free {env : Env} : ∀ {names : Nm} {acc : List (Str × Addr)} {x : Str},(x,NameKind.free) ∈ names → (closOf env names acc).lookup x = some ((env.cells.lookup x).getD 0)
 | (n,k) :: r,acc,x,h => by
  unfold closOf
  rcases List.mem_cons.mp h with e | h
  ·cases e
   rw [if_pos (by decide)]
   exact closOf_acc (by simp)
  ·split
   ·exact closOf_free h
   ·exact closOf_free h
theorem cellsFrom_app : ∀ (names : Nm) (n : Nat) (acc : List (Str × Addr)),cellsFrom n names acc = cellsFrom n names [] ++ acc
 | [],_,_ => rfl
 | (x,k) :: r,n,acc => by
  unfold cellsFrom
  split
  ·rw [cellsFrom_app r (n + 1) ((x,n) :: acc),cellsFrom_app r (n + 1) [(x,n)]]; simp
  ·exact cellsFrom_app r n acc
theorem cellsFrom_mem : ∀ {names : Nm} {n : Nat} {x : Str} {c : Addr},(x,c) ∈ cellsFrom n names [] → (x,NameKind.cell) ∈ names
 | (y,k) :: r,n,x,c,h => by
  unfold cellsFrom at h
  split at h
  ·rename_i hk
   have hk : k = .cell := by simpa using hk
   subst hk
   rw [cellsFrom_app] at h
   rcases List.mem_append.mp h with h | h
   ·exact List.mem_cons_of_mem _ (cellsFrom_mem h)
   ·simp only [List.mem_cons,Prod.mk.injEq,List.not_mem_nil,or_false] at h
    rw [h.1]; exact List.mem_cons_self
  ·exact List.mem_cons_of_mem _ (cellsFrom_mem h)
theorem lookup_isSome_of_mem {α : Type} : ∀ {l : List (Str × α)} {x : Str} {c : α},(x,c) ∈ l → (l.lookup x).isSome = true
 | (y,d) :: r,x,c,h => by
  rw [List.lookup_cons]
  cases hx : x == y with
  | true => rfl
  | false =>
   rcases List.mem_cons.mp h with e | h
   ·cases e; simp at hx
   ·exact lookup_isSome_of_mem h
theorem cellsFrom_has : ∀ {names : Nm} {n : Nat} {x : Str},(x,NameKind.cell) ∈ names → ((cellsFrom n names []).lookup x).isSome = true
 | (y,k) :: r,n,x,h => by
  unfold cellsFrom
  rcases List.mem_cons.mp h with e | h
  ·cases e
   rw [if_pos (by decide),cellsFrom_app]
   exact lookup_isSome_of_mem (c := n) (List.mem_append_right _ List.mem_cons_self)
  ·split
   ·rw [cellsFrom_app,List.lookup_append]
    have := cellsFrom_has (n := n + 1) h
    obtain ⟨c,hc⟩ := Option.isSome_iff_exists.mp this
    rw [hc]; rfl
   ·exact cellsFrom_has h
theorem lookup_nodup {α : Type} {l : List (Str × α)} {x : Str} {c : α} : (l.map (·.1)).Nodup → (x,c) ∈ l → l.lookup x = some c := by
 induction l with
 | nil => exact fun _ h => absurd h List.not_mem_nil
 | cons p r ih =>
  intro hn h
  rw [List.map_cons,List.nodup_cons] at hn
  rw [List.lookup_cons]
  rcases List.mem_cons.mp h with e | h
  ·rw [← e,beq_self_eq_true]
  ·rw [beq_eq_false_iff_ne.mpr fun e => hn.1 (by rw [← e]; exact List.mem_map.mpr ⟨(x,c),h,rfl⟩)]
   exact ih hn.2 h
theorem lookup_relabel {env : Env} : ∀ {names : Nm} {x : Str},
  (names.map fun (n,k) => if (k == NameKind.free && env.scope.kind == .function && env.kindOf n == some .cell) then (n,NameKind.cell) else (n,k)).lookup x =
   (names.lookup x).map fun k => if (k == NameKind.free && env.scope.kind == .function && env.kindOf x == some .cell) then NameKind.cell else k
 | [],_ => rfl
 | (n,k) :: r,x => by
  show List.lookup x ((if (k == NameKind.free && env.scope.kind == .function && env.kindOf n == some .cell) = true then (n,NameKind.cell) else (n,k)) :: _) = _
  have ih := @lookup_relabel env r x
  cases hx : x == n with
  | true =>
   have := eq_of_beq hx
   subst this
   split <;> rename_i hc <;> simp only [List.lookup_cons,beq_self_eq_true,Option.map_some] <;> first | rw [if_pos hc] | rw [if_neg hc]
  | false =>
   split <;> simp only [List.lookup_cons,hx] <;> exact ih
section
end
theorem bindL_keep {kindOf : Str → Option NameKind} {x : Str} {r : List (Str × Value)} : ∀ {m : Str → Option Value},x ∉ r.map (·.1) → bindL kindOf r m x = m x := by
 induction r with
 | nil => intro m _; rfl
 | cons p r ih =>
  intro m hn
  rw [List.map_cons,List.mem_cons,not_or] at hn
  unfold bindL
  rw [ih hn.2]
  split
  ·exact if_neg hn.1
  ·rfl
theorem bindL_get {kindOf : Str → Option NameKind} {x : Str} {val : Value} {binds : List (Str × Value)} : ∀ {m : Str → Option Value},(binds.map (·.1)).Nodup → (x,val) ∈ binds → kindOf x = some .local → bindL kindOf binds m x = some val := by
 induction binds with
 | nil => exact fun _ h => absurd h List.not_mem_nil
 | cons p r ih =>
  intro m nd hm hk
  rw [List.map_cons,List.nodup_cons] at nd
  unfold bindL
  rcases List.mem_cons.mp hm with e | hm
  ·subst e
   rw [bindL_keep nd.1,if_pos hk,if_pos rfl]
  ·exact ih nd.2 hm hk
theorem bindC_keep {kindOf : Str → Option NameKind} {x : Str} {r : List (Str × Value)} : ∀ {m : Str → Option Value},x ∉ r.map (·.1) → bindC kindOf r m x = m x := by
 induction r with
 | nil => intro m _; rfl
 | cons p r ih =>
  intro m hn
  rw [List.map_cons,List.mem_cons,not_or] at hn
  unfold bindC
  rw [ih hn.2]
  split
  ·rfl
  ·exact if_neg hn.1
theorem bindC_get {kindOf : Str → Option NameKind} {x : Str} {val : Value} {binds : List (Str × Value)} : ∀ {m : Str → Option Value},(binds.map (·.1)).Nodup → (x,val) ∈ binds → kindOf x ≠ some .local → bindC kindOf binds m x = some val := by
 induction binds with
 | nil => exact fun _ h => absurd h List.not_mem_nil
 | cons p r ih =>
  intro m nd hm hk
  rw [List.map_cons,List.nodup_cons] at nd
  unfold bindC
  rcases List.mem_cons.mp hm with e | hm
  ·subst e
   rw [bindC_keep nd.1,if_neg hk,if_pos rfl]
  ·exact ih nd.2 hm hk
theorem zip_fst : ∀ {ps : List Str} {vals : List Value},vals.length = ps.length → (ps.zip vals).map (·.1) = ps
 | [],[],_ => rfl
 | a :: as,v :: vs,h => by simp only [List.zip_cons_cons,List.map_cons]; rw [zip_fst (by simpa using h)]
 | [],_ :: _,h => by simp at h
 | _ :: _,[],h => by simp at h
theorem cellsFrom_sub : ∀ {names : Nm} {n : Nat},List.Sublist ((cellsFrom n names []).map (·.1)).reverse (names.map (·.1))
 | [],_ => by simp [cellsFrom]
 | (y,k) :: r,n => by
  unfold cellsFrom
  split
  ·rw [cellsFrom_app]
   simp only [List.map_append,List.map_cons,List.map_nil,List.reverse_append,List.reverse_cons,List.reverse_nil,List.nil_append,List.singleton_append]
   exact cellsFrom_sub.cons_cons y
  ·exact cellsFrom_sub.cons y
structure FnIs (C : Cx) (fa : Addr) (fd : FuncData) (ps : List Str) (body : List Stmt) (names : Nm) : Prop where
 ho : ∃ oc od osl,C.K.lookup fa = some ⟨oc,od,.func fd,osl⟩
 cd : codeIn C.K fd.code fd.qualname = true
 bd : fd.body = .stmts body
 clo : fd.closure = []
 gl : fd.globals = mainGlobals
 bl : fd.builtins = builtinsNs
 co : fd.scope.isCoroutine = false
 ge : fd.scope.isGenerator = false
 kd : fd.scope.kind = .function
 nm : names = fd.scope.names
 nd : (fd.scope.names.map (·.1)).Nodup
 pn : ps.Nodup
 pk : ∀ x ∈ ps,fd.scope.names.lookup x = some .local ∨ fd.scope.names.lookup x = some .cell
 nf : ∀ x,fd.scope.names.lookup x ≠ some .free
structure Ent0 (C : Cx) (kd : Kd) (s : Shared) (z : Lc) (Z : Addr → Prop) (E0 : StE) (ps : List Str) (ws : List Value) : Prop where
 val : ∀ x v,E0 x = some (.val v) → ∃ w,(x,w) ∈ ps.zip ws ∧ okName x = true ∧ VR C s.heap z v w
 tr : ∀ x T fin,E0 x = some (.tr T fin) → x = ("" : Str) ∧ Live C s.heap z.kt z.dx T z.ad fin ∧ (∀ (j : Nat) a,z.ad[j]? = some a → s.heap.get? a.tab = T.ob[j]?) ∧ kd ≠ .law ∧ (kd.rw = true → ∀ b,PlT z.kt z.dx z.ad b → z.lv b ∧ C.h₀.get? b = none ∧ Z b) ∧ (kd = .rd → ∀ b,PlT z.kt z.dx z.ad b → z.lv b)
 nl : ∀ x e,E0 x = some e → ¬ e.isL
noncomputable def retV : Fl → V
 | .ret v => v
 | _ => .dat .none
structure FnSc (fd : FuncData) (ps : List Str) (names : Nm) : Prop where
 clo : fd.closure = []
 gl : fd.globals = mainGlobals
 bl : fd.builtins = builtinsNs
 kd : fd.scope.kind = .function
 nm : names = fd.scope.names
 nd : (fd.scope.names.map (·.1)).Nodup
 pn : ps.Nodup
 pk : ∀ x ∈ ps,fd.scope.names.lookup x = some .local ∨ fd.scope.names.lookup x = some .cell
 nf : ∀ x,fd.scope.names.lookup x ≠ some .free
theorem FnIs.sc {C : Cx} {fa : Addr} {fd : FuncData} {ps : List Str} {body : List Stmt} {names : Nm} (h : FnIs C fa fd ps body names) : FnSc fd ps names := ⟨h.clo,h.gl,h.bl,h.kd,h.nm,h.nd,h.pn,h.pk,h.nf⟩
theorem FnSc.kinds {fd : FuncData} {ps : List Str} {names : Nm} {ws : List Value} {n : Nat} (hF : FnSc fd ps names) (hl : ws.length = ps.length) : ∀ x ∈ ps.zip ws,fd.scope.names.lookup x.1 = some .local ∨ (fd.scope.names.lookup x.1 = some .cell ∧ ((cellsFrom n fd.scope.names []).lookup x.1).isSome = true) := fun x hx => by
 have hm : x.1 ∈ ps := by rw [← zip_fst hl]; exact List.mem_map.mpr ⟨x,hx,rfl⟩
 exact (hF.pk x.1 hm).imp id fun e => ⟨e,cellsFrom_has (mem_of_lookup e)⟩
theorem ent_E {C : Cx} {R : Nat} {names : Nm} {un : Bool} {kd : Kd} {fa : Addr} {fd : FuncData} {ps : List Str} (hF : FnSc fd ps names) (gb : ∀ x,isBn x = true → nsIn C.K mainGlobals x = some none)
  {A : Around} {s s₁ : Shared} {z : Lc} {Z : Addr → Prop} {E0 : StE} {ws : List Value} {env : Env} (hu : un = true → A.handled = none) (M : Rm C (R + 1) A s) (on : C.On s) (hlo : C.lo ≤ s.heap.objs.size)
  (lt : ∀ b,z.lv b → ∃ o,s.heap.get? b = some o ∧ ∀ vs,o.data ≠ .fields vs) (hZ : ∀ b o,Z b → s.heap.get? b = some o → z.lv b ∧ (o.cls = .type "tuple" → ∀ vs n,o.data ≠ .seq vs n) ∧ ∀ vs,o.data ≠ .fields vs) (hE : Ent0 C kd s z Z E0 ps ws)
  (hl : ws.length = ps.length) (henv : callEnvC fd s.heap.objs.size fa = env) (X : InCallC s env.locals (bindL env.kindOf (ps.zip ws) fun _ => none) env.cells (bindC env.kindOf (ps.zip ws) fun _ => none) s₁) (FO : FrameObj env.locals s₁.heap) :
  FOk ⟨C,R,names,un,kd⟩ ⟨A.deeper env,env,env.cells,[],s,z.lv,Z,z.lv,z⟩ ∧ St ⟨C,R,names,un,kd⟩ ⟨A.deeper env,env,env.cells,[],s,z.lv,Z,z.lv,z⟩ ⟨fun b => z.lv b ∨ b = env.locals,z.kt,z.dx,z.ad,z.pl⟩ E0 s₁ ∧ Kp C.lo s s₁ ∧ s.heap.get? env.locals = none := by
 have eL : env.locals = s.heap.objs.size := by rw [← henv]; rfl
 have eC : env.cells = cellsFrom (s.heap.objs.size + 1) fd.scope.names [] := by rw [← henv]; rfl
 have eS : env.scope = fd.scope := by rw [← henv]; rfl
 have eF : env.frame = some env.locals := by rw [← henv]; rfl
 have eK : ∀ x,env.kindOf x = fd.scope.names.lookup x := fun x => by unfold Env.kindOf; rw [eS]
 obtain ⟨h₁,tk,rfl,hk⟩ := X.done
 have kp : Kp C.lo s { s with heap := h₁,toks := tk } := Kp.of_keep hk
 have nL : s.heap.get? env.locals = none := by rw [eL]; exact get_none_size _
 have above : ∀ y c,(y,c) ∈ env.cells → s.heap.get? c = none := fun y c hm => by
  have := X.above y c hm
  exact Heap.get?_none_of_le (Nat.le_of_lt (by rw [eL] at this; exact this))
 have cnd : (env.cells.map (·.1)).Nodup := by
  rw [eC]
  exact (List.reverse_perm _).nodup_iff.mp (List.Nodup.sublist (cellsFrom_sub (n := s.heap.objs.size + 1)) hF.nd)
 have zn : ((ps.zip ws).map (·.1)).Nodup := by rw [zip_fst hl]; exact hF.pn
 have up : Up (⟨A,env,[],[],s,z.lv,Z,z.lv,z⟩ : Fx) s z { s with heap := h₁,toks := tk } ⟨fun b => z.lv b ∨ b = env.locals,z.kt,z.dx,z.ad,z.pl⟩ :=
  ⟨⟨(kp.stable z.lv).keep,(kp.stable z.lv).tup,fun b o e _ l => l.elim id fun q => by rw [q,nL] at e; cases e⟩,fun b l => l.imp id fun q => by
   refine byG fun G9 k9 => ?_
   obtain ⟨o,es,ep,e,d,_⟩ := X.toInCall.ns
   refine k9 ?_
   clear k9 G9
   rw [q]; exact ⟨nL,o,e,by rw [d]; nofun⟩,fun b l => .inl l,rfl,rfl,fun _ _ e => e⟩
 let f : Fx := ⟨A.deeper env,env,env.cells,[],s,z.lv,Z,z.lv,z⟩
 let z0 : Lc := ⟨fun b => z.lv b ∨ b = env.locals,z.kt,z.dx,z.ad,z.pl⟩
 have ok : FOk ⟨C,R,names,un,kd⟩ f := by
  refine ⟨⟨(by show env.scope.kind = _; rw [eS]; exact hF.kd),(by show env.globals = _; rw [← henv]; exact hF.gl),(by show env.builtins = _; rw [← henv]; exact hF.bl)⟩,fun x hx => ?_,fun x e => (eK x).trans (hF.nm ▸ e),fun x e => ?_,(by show env.cells = env.cells ++ []; simp),X.apart,(fun _ _ _ _ _ hm => nomatch hm),(by show C.lo ≤ env.locals; rw [eL]; exact hlo),⟨On_none on nL,.inr nL⟩,(fun x c hm => ⟨On_none on (above x c hm),.inr (above x c hm)⟩),(fun b o hz e => let ⟨h1,h2,h3⟩ := hZ b o hz e; ⟨.inl h1,h2,h3⟩),hu,gb,fun _ => ⟨eF,let ⟨l,hl,_⟩ := M.fr; ⟨l,by show A.frames.map _ = _; rw [hl]; rfl⟩⟩⟩
  ·have hx : isLC names x = true := hx
   rw [hF.nm] at hx
   unfold isLC at hx
   show env.kindOf x = _ ∨ (env.kindOf x = _ ∧ _)
   rw [eK]
   split at hx
   ·rename_i e; exact .inl e
   ·rename_i e; exact .inr ⟨e,by show (env.cells.lookup x).isSome = true; rw [eC]; exact cellsFrom_has (mem_of_lookup e)⟩
   ·cases hx
  ·have e : names.lookup x = _ ∨ names.lookup x = _ := e
   rw [hF.nm] at e
   refine ⟨?_,?_⟩
   ·show env.kindOf x = _ ∨ env.kindOf x = _
    rw [eK]; exact e
   ·show (env.cells.lookup x).isSome = true
    rw [eC]
    exact e.elim (fun e => cellsFrom_has (mem_of_lookup e)) fun e => (hF.nf x e).elim
 have sl : ∀ x w,(x,w) ∈ ps.zip ws → okName x = true → Slot env h₁ x w := fun x w hm o => by
  have hxp : x ∈ ps := by rw [← zip_fst hl]; exact List.mem_map.mpr ⟨_,hm,rfl⟩
  rcases hF.pk x hxp with e | e
  ·exact .loc _ ((eK x).trans e) o X.toInCall.ns (bindL_get zn hm ((eK x).trans e))
  ·obtain ⟨c,hc⟩ := Option.isSome_iff_exists.mp (cellsFrom_has (n := s.heap.objs.size + 1) (mem_of_lookup e))
   have hc : env.cells.lookup x = some c := by rw [eC]; exact hc
   have hcell := X.cell x c hc
   rw [bindC_get zn hm (by rw [eK,e]; nofun)] at hcell
   exact .cell c (.inl ((eK x).trans e)) o hc hcell
 have S : St ⟨C,R,names,un,kd⟩ f z0 E0 { s with heap := h₁,toks := tk } := by
  have M' := M.kp kp
  refine ⟨on.kp kp,⟨?_,?_,?_⟩,kp.md,fun b l => ?_,fun b l => l.imp id fun q => (by rw [q]; exact nL),.inr rfl,fun b l => .inl l,⟨_,X.toInCall.ns⟩,fun y c hm => ⟨_,X.cell y c (lookup_nodup cnd (by rw [← List.append_nil env.cells]; exact hm))⟩,fun x e he => ?_,fun x y e e' h1 _ l => (hE.nl x e h1 l).elim,fun _ => ⟨rfl,rfl,fun _ _ e => e⟩⟩
  ·show A.depth + 1 + R < _; have := M.depth; omega
  ·show A.units + 3 + 10 * R + 200 < _; have := M.units; omega
  ·obtain ⟨l,hl,hfr⟩ := M'.fr
   refine ⟨env :: l,by show A.frames.map _ = _; rw [hl]; rfl,?_⟩
   obtain ⟨o,es,ep,e,d,_⟩ := X.toInCall.ns
   refine ⟨⟨by rw [eS,hF.kd]; nofun,⟨env.locals,o,eF,On_none on nL,e,by rw [d]; nofun⟩,hfr.1⟩,fun e' he L hL => ?_⟩
   rcases List.mem_cons.mp he with rfl | he
   ·rw [eF] at hL; obtain rfl := Option.some.inj hL; exact ⟨by rw [eL]; exact hlo,FO⟩
   ·exact hfr.2 e' he L hL
  ·rcases l with l | rfl
   ·obtain ⟨o,e,hn⟩ := lt b l
    exact ⟨o,hk b o e,hn⟩
   ·obtain ⟨o,es,ep,e,d,_⟩ := X.toInCall.ns
    exact ⟨o,e,by rw [d]; nofun⟩
  ·cases e with
   | val v =>
    obtain ⟨w,hm,o,r⟩ := hE.val x v he
    exact .slot w (sl x w hm o) (VR.up (f := ⟨A,env,[],[],s,z.lv,Z,z.lv,z⟩) (s := s) (s' := { s with heap := h₁,toks := tk }) up r)
   | tr T fin =>
    obtain ⟨key,L,hob,hl,hw⟩ := hE.tr x T fin he
    refine .tr key ⟨L.keep (fun b o _ e => hk b o e) fun b o vs n e _ _ => hk b o e,fun j a e => (by
     obtain ⟨o,e',_⟩ := L.ob (.inl (mem_adAll e).2.2)
     rw [← hob j a e,e']; exact hk _ o e'),fun p => ?_,fun hf b p => let ⟨h1,h2,h3⟩ := hw.1 hf b p; ⟨.inl h1,h2,.inl h3⟩,fun h => (hl h).elim,hw.2⟩
    obtain ⟨o,e,_⟩ := L.ob p
    have e : s.heap.get? env.locals = some o := e
    rw [nL] at e; cases e
   | live l => exact (hE.nl x _ he trivial).elim
   | nds l => exact (hE.nl x _ he trivial).elim
   | nats l => exact (hE.nl x _ he trivial).elim
   | dic l => exact (hE.nl x _ he trivial).elim
 exact ⟨ok,S,kp,nL⟩
theorem code_E {C : Cx} {R : Nat} {names : Nm} {un : Bool} {kd : Kd} {fa : Addr} {fd : FuncData} {ps : List Str} {body : List Stmt} (hF : FnIs C fa fd ps body names) (gb : ∀ x,isBn x = true → nsIn C.K mainGlobals x = some none)
  {A : Around} {s : Shared} {z : Lc} {Z : Addr → Prop} {E0 : StE} {ws : List Value} {args : Args} {K : Result → Shared → Prop} (hu : un = true → A.handled = none) (M : Rm C (R + 1) A s) (on : C.On s) (hlo : C.lo ≤ s.heap.objs.size)
  (lt : ∀ b,z.lv b → ∃ o,s.heap.get? b = some o ∧ ∀ vs,o.data ≠ .fields vs) (hZ : ∀ b o,Z b → s.heap.get? b = some o → z.lv b ∧ (o.cls = .type "tuple" → ∀ vs n,o.data ≠ .seq vs n) ∧ ∀ vs,o.data ≠ .fields vs) (hE : Ent0 C kd s z Z E0 ps ws)
  (hl : ws.length = ps.length) (hb : BindsTo s fd args (ps.zip ws)) (k : ∀ f z' s1 X,FOk ⟨C,R,names,un,kd⟩ f → St ⟨C,R,names,un,kd⟩ f z' E0 s1 → f.s₀ = s → f.Z = Z → f.zb = z → f.lvc = z.lv → Kp C.lo s s1 → s.heap.get? f.env.locals = none → (∀ b,z.lv b → z'.lv b) → wpAny C.M f.A (execs body f.env) (fun fw s' => K (.ok (.ret (match fw with | .ret v => v | _ => .none))) s') X s1) : codeAny C.M A (.call (.ref fa) args) K s := by
 obtain ⟨oc,od,osl,ho⟩ := hF.ho
 have hK := C.kin.keeps on
 refine call_cls (fd := fd) (body := body) (binds := ps.zip ws) (by have := M.depth; omega) (hK _ _ ho) rfl (C.nl.keeps on) (codeRec_of hK hF.cd) hF.bd hb hF.clo (hF.sc.kinds hl) (fun s₁ X FO => ?_) hF.co hF.ge hF.kd
 generalize henv : callEnvC fd s.heap.objs.size fa = env at X FO ⊢
 have r := ent_E (R := R) (un := un) hF.sc gb hu M on hlo lt hZ hE hl henv X FO
 exact k _ _ _ _ r.1 r.2.1 rfl rfl rfl rfl r.2.2.1 r.2.2.2 fun b l => .inl l
theorem code_W {C : Cx} {R : Nat} {names : Nm} {un : Bool} {kd : Kd} {fa : Addr} {fd : FuncData} {ps : List Str} {body : List Stmt} (hF : FnIs C fa fd ps body names) (gb : ∀ x,isBn x = true → nsIn C.K mainGlobals x = some none)
  {A : Around} {s : Shared} {z : Lc} {Z : Addr → Prop} {E0 : StE} {ws : List Value} {args : Args} {Q : Fl → StE → Prop} {K : Result → Shared → Prop} (hu : un = true → A.handled = none) (M : Rm C (R + 1) A s) (on : C.On s) (hlo : C.lo ≤ s.heap.objs.size)
  (lt : ∀ b,z.lv b → ∃ o,s.heap.get? b = some o ∧ ∀ vs,o.data ≠ .fields vs) (hZ : ∀ b o,Z b → s.heap.get? b = some o → z.lv b ∧ (o.cls = .type "tuple" → ∀ vs n,o.data ≠ .seq vs n) ∧ ∀ vs,o.data ≠ .fields vs) (hE : Ent0 C kd s z Z E0 ps ws)
  (hl : ws.length = ps.length) (hb : BindsTo s fd args (ps.zip ws)) (hw : W ⟨C,R,names,un,kd⟩ E0 body Q)
  (k : ∀ fl E' f z' s' w,St ⟨C,R,names,un,kd⟩ f z' E' s' → f.s₀ = s → f.Z = Z → f.zb = z → f.lvc = z.lv → VR C s'.heap z' (retV fl) w → Q fl E' → K (.ok (.ret w)) s') : codeAny C.M A (.call (.ref fa) args) K s :=
 code_E hF gb hu M on hlo lt hZ hE hl hb fun f z0 s1 X ok S h1 h2 h3 h4 _ _ _ => wpAny_mono (hw f z0 _ ok S _) (fun fw s' ⟨fl,E',z',S',h,q⟩ => by
  have fin : ∀ w,VR C s'.heap z' (retV fl) w → K (.ok (.ret w)) s' := fun w r => k fl E' f z' s' w S' h1 h2 h3 h4 r q
  cases fl with
  | next => cases h; exact fin _ rd_none
  | brk => cases h; exact fin _ rd_none
  | cont => cases h; exact fin _ rd_none
  | ret v => obtain ⟨w,rfl,r⟩ := h; exact fin w r) fun _ _ => id
theorem call_W {C : Cx} {R : Nat} {names : Nm} {un : Bool} {kd : Kd} {fa : Addr} {fd : FuncData} {ps : List Str} {body : List Stmt} (hF : FnIs C fa fd ps body names) (gb : ∀ x,isBn x = true → nsIn C.K mainGlobals x = some none)
  {A : Around} {s : Shared} {z : Lc} {Z : Addr → Prop} {E0 : StE} {ws vals : List Value} {Q : Fl → StE → Prop} {K X : Value → Shared → Prop} (hu : un = true → A.handled = none) (M : Rm C (R + 1) A s) (on : C.On s) (hlo : C.lo ≤ s.heap.objs.size)
  (lt : ∀ b,z.lv b → ∃ o,s.heap.get? b = some o ∧ ∀ vs,o.data ≠ .fields vs) (hZ : ∀ b o,Z b → s.heap.get? b = some o → z.lv b ∧ (o.cls = .type "tuple" → ∀ vs n,o.data ≠ .seq vs n) ∧ ∀ vs,o.data ≠ .fields vs) (hE : Ent0 C kd s z Z E0 ps ws)
  (hl : ws.length = ps.length) (hb : bindArgs fd ⟨vals,[]⟩ = pure (ps.zip ws)) (hw : W ⟨C,R,names,un,kd⟩ E0 body Q)
  (k : ∀ fl E' f z' s' w,St ⟨C,R,names,un,kd⟩ f z' E' s' → f.s₀ = s → f.Z = Z → f.zb = z → f.lvc = z.lv → VR C s'.heap z' (retV fl) w → Q fl E' → K w s') : wpAny C.M A (call (.ref fa) vals) K X s :=
 wpAny_call (code_W hF gb hu M on hlo lt hZ hE hl (BindsTo.of_eq hb) hw fun fl E' f z' s' w S h1 h2 h3 h4 r q => k fl E' f z' s' w S h1 h2 h3 h4 r q)
noncomputable def initE : List Str → List V → StE
 | a :: as,v :: vs => setE (initE as vs) a (.val v)
 | _,_ => fun _ => none
theorem initE_get {R : V → Value → Prop} {vs : List V} {ws : List Value} (al : All2 R vs ws) : ∀ {ps : List Str} x e,initE ps vs x = some e → ∃ v w,e = .val v ∧ (x,w) ∈ ps.zip ws ∧ R v w := by
 induction al with
 | nil => intro ps x e h; cases ps <;> exact none_some h
 | @cons v w0 _ _ r _ ih =>
  intro ps x e h
  cases ps with
  | nil => exact none_some h
  | cons a as =>
   have h : (if x = a then some (Ent.val v) else initE as _ x) = some e := h
   by_cases hx : x = a
   ·rw [if_pos hx] at h
    exact ⟨v,w0,(Option.some.inj h).symm,hx ▸ List.mem_cons_self,r⟩
   ·rw [if_neg hx] at h
    obtain ⟨v,w,h1,h2,h3⟩ := ih x e h
    exact ⟨v,w,h1,List.mem_cons_of_mem _ h2,h3⟩
theorem fn_run {C : Cx} {R : Nat} {names names' : Nm} {un : Bool} {kd' : Kd} (kd : Kd := .law) {fa : Addr} {fd : FuncData} {ps : List Str} {body : List Stmt} {vs : List V} {v : V} (hF : FnIs C fa fd ps body names) (gb : ∀ x,isBn x = true → nsIn C.K mainGlobals x = some none) (hb : ∀ ws,ws.length = ps.length → bindArgs fd ⟨ws,[]⟩ = pure (ps.zip ws)) (hl : vs.length = ps.length) (ho : ps.all okName = true)
  (hw : W ⟨C,R,names,un,kd⟩ (initE ps vs) body fun fl _ => fl = .ret v) (hv : ∀ z : Lc,∀ z' : Lc,∀ h w,(∀ b,z.lv b → z'.lv b) → VR C h z' v w → VR C h z v w) : PureFn ⟨C,R + 1,names',un,kd'⟩ (.ref fa) vs v := fun A s lv z ws e hu M on hlo lt rs Q X q => by
 subst e
 refine call_W (Z := fun _ => False) hF gb hu M on hlo lt (fun _ _ h => h.elim) ⟨fun x v hx => ?_,fun x T fin hx => ?_,fun x e hx l => ?_⟩ (rs.length.symm.trans hl) (hb ws (rs.length.symm.trans hl)) hw fun fl E' f z' s' w S h0 hZ hl0 hc r q' => ?_
 ·obtain ⟨v',w,h1,h2,h3⟩ := initE_get rs x _ hx
  cases h1
  exact ⟨w,h2,List.all_eq_true.mp ho x (by rw [← zip_fst (rs.length.symm.trans hl)]; exact List.mem_map.mpr ⟨_,h2,rfl⟩),h3⟩
 ·obtain ⟨v',w,h1,_⟩ := initE_get rs x _ hx; cases h1
 ·obtain ⟨v',w,h1,_⟩ := initE_get rs x _ hx; cases h1; exact l
 ·subst q'
  have md := S.md
  rw [h0,hZ] at md
  exact q w s' ⟨fun b o e => md.heap b o e id,md.os,md.gens⟩ (hv z z' _ w (fun b l => S.lu b (hc ▸ l)) r)
end
section
theorem compTurn_one {elt : Expr} {sc : Scope} {pos : Pos} {t itE : Expr} {ifs : List Expr} (it acc : Value) (env : Env) :
  compTurn (.ListComp elt [⟨t,itE,ifs,0⟩] sc pos) 0 it acc env = (do
   standAt itE.pos
   match ← pyNext it with
   | none => pure (.done .next)
   | some v =>
    letOwnedTupleGo t it v
    assign t env v
    let ok ← forIn ifs true fun c r => if r = true then do let ok ← isTrue c env (eval c env); pure (ForInStep.yield ok) else pure (ForInStep.yield r)
    if ok = true then do
     (do let x ← eval elt env; let _ ← call (.builtin "list.append") [acc,x]; pure ())
     again (.compLoop (.ListComp elt [⟨t,itE,ifs,0⟩] sc pos) 0 it acc env)
    else again (.compLoop (.ListComp elt [⟨t,itE,ifs,0⟩] sc pos) 0 it acc env)) := rfl
theorem compStart_eq {elt : Expr} {gens : List Comprehension} {sc : Scope} {pos : Pos} {k : Nat} {t itE : Expr} {ifs : List Expr} (hg : gens[k]? = some ⟨t,itE,ifs,0⟩) (it acc : Value) (env : Env) :
  compStart (.ListComp elt gens sc pos) k it acc env = (do
   if (← ask).params.followText "comprehension-iter-twice" = true then again (.compLoop (.ListComp elt gens sc pos) k it acc env)
   else do
    rule "comprehension.iter-twice"
    standAt itE.pos
    let i ← pyIter it
    again (.compLoop (.ListComp elt gens sc pos) k i acc env)) := by
 unfold compStart
 rw [show clausesOf (.ListComp elt gens sc pos) = gens from rfl,hg]
 rfl
section
variable {C : Cx} {A : Around} {cenv : Env} {elt : Expr} {gens : List Comprehension} {sc : Scope} {pos : Pos}
theorem codeAny_compStart {k : Nat} {t itE : Expr} {ifs : List Expr} {it acc : Value} {Rr : Result → Shared → Prop} {s : Shared} (hg : gens[k]? = some ⟨t,itE,ifs,0⟩)
  (h0 : codeAny C.M A (.compLoop (.ListComp elt gens sc pos) k it acc cenv) Rr s)
  (h : ∀ Q E,Q it s → wpAny C.M A (pyIter it) Q E s) : codeAny C.M A (.compStart (.ListComp elt gens sc pos) k it acc cenv) Rr s := by
 refine codeAny_of_tree ?_
 show wpAny _ _ ((compStart (.ListComp elt gens sc pos) k it acc cenv).onRaise (fun x => do noteFrame x cenv; standAt theWindowsPlace)) _ _ s
 refine wpAny_notedAt ?_
 rw [compStart_eq hg]
 refine wpAny_bind (wpAny_askSetting (wpAny_ite ?_))
 split
 ·exact wpAny_pure (And.intro rfl h0)
 ·exact wpAny_bind (wpAny_rule (wpAny_bind (wpAny_standAt (wpAny_bind (h _ _ (wpAny_pure (And.intro rfl h0)))))))
end
section
variable {env : Env}
end
noncomputable def Ts (P : Pr) (E : StE) (ifs : List Expr) (b : Bool) : Prop :=
 ∀ f z s,FOk P f → St P f z E s → EvB P.C f.A s (forIn ifs true fun c r => if r = true then do let ok ← isTrue c f.env (eval c f.env); pure (ForInStep.yield ok) else pure (ForInStep.yield r)) b
theorem t_nil {P : Pr} {E : StE} : Ts P E [] true := fun f z s ok S Q X k => wpAny_pure (k _ (.refl ..))
theorem t_one {P : Pr} {E : StE} {c : Expr} {b : Bool} (h : Xt P E c b) : Ts P E [c] b := fun f z s ok S Q X k => by
 rw [List.forIn_cons]
 exact wpAny_bind (wpAny_bind (h f z s ok S _ _ fun s' k' => wpAny_pure (wpAny_pure (k s' k'))))
inductive CompR (P : Pr) (elt t : Expr) (ifs : List Expr) (E : StE) : List PyData → List PyData → Prop
 | nil : CompR P elt t ifs E [] []
 | skip {E2 d rest ds} (hb : bindE P t E d = some E2) (sub : ∀ x e,E x = some e → E2 x = some e) (ht : Ts P E2 ifs false) (hr : CompR P elt t ifs E rest ds) : CompR P elt t ifs E (d :: rest) ds
 | last {E2 d rest y ds} (hb : bindE P t E d = some E2) (sub : ∀ x e,E x = some e → E2 x = some e) (ht : Ts P E2 ifs true) (he : Ex P E2 elt (.dat y)) (hr : CompR P elt t ifs E rest ds) : CompR P elt t ifs E (d :: rest) (y :: ds)
structure Stp (z : Lc) (I : Addr → Prop) (s s' : Shared) : Prop where
 st : Stable s.heap z.lv s'.heap z.lv
 fl : ∀ b o vs,s.heap.get? b = some o → ¬ I b → o.data = .fields vs → o.cls ≠ .type "frame" → s'.heap.get? b = some o
theorem Stp.trans {z : Lc} {I : Addr → Prop} {s s' s'' : Shared} (x : Stp z I s s') (y : Stp z I s' s'') : Stp z I s s'' := ⟨x.st.trans' y.st,fun b o vs e n d c => y.fl b o vs (x.fl b o vs e n d c) n d c⟩
theorem Kp.stp {lo : Nat} {z : Lc} {I : Addr → Prop} {s s' : Shared} (k : Kp lo s s') : Stp z I s s' := ⟨k.stable _,fun b o vs e _ d c => k.get e c⟩
theorem Stp.kpt {z : Lc} {I : Addr → Prop} {s s' : Shared} (x : Stp z I s s') {b : Addr} {o : Obj} (e : s.heap.get? b = some o) (n : ¬ I b) (h : Kpt z b o) : s'.heap.get? b = some o := by
 obtain ⟨h1,⟨vs,d⟩ | ⟨h,vs,k,d⟩ | ⟨so,h⟩⟩ := h
 ·exact x.fl b o vs e n d h1
 ·exact x.st.tup b o vs k e h d
 ·exact x.st.keep b o e h so
structure Cur (C : Cx) (A : Around) (z : Lc) (I : Addr) (fp : List Addr) (Pv : Nat → Value → Prop) (Sv : Nat → Heap → Prop) (all : List PyData) (i : Nat) (s : Shared) : Prop where
 W : Walks C.prog C.w A I fp [I] all.length Pv Sv
 nf : ∀ i h,Sv i h → ∀ b ∈ fp,∀ o,h.get? b = some o → o.cls ≠ .type "frame"
 ow : ∀ i h,Sv i h → ∃ o n vs,h.get? I = some o ∧ o.cls = .type n ∧ o.data = .fields vs ∧ (["enumerate","zip","dict_itemiterator","dict_reverseitemiterator","odict_iterator","itertools.zip_longest","itertools.pairwise"].contains n) = false
 st : Sv i s.heap
 rd : ∀ j v,j < all.length → Pv j v → ∃ d,all[j]? = some d ∧ Rd s.heap z.lv v d
 sep : ∀ b ∈ fp,∃ o,s.heap.get? b = some o ∧ Kpt z b o
section
variable {P : Pr} {f : Fx} {z : Lc} {E : StE} {s s' : Shared} {I : Addr} {fp : List Addr} {Pv : Nat → Value → Prop} {Sv : Nat → Heap → Prop} {all : List PyData} {i : Nat}
theorem Cur.move {J : Addr → Prop} (U : Cur P.C f.A z I fp Pv Sv all i s) (x : Stp z J s s') (n : ∀ b o,J b → s.heap.get? b = some o → ¬ Kpt z b o) : Cur P.C f.A z I fp Pv Sv all i s' :=
 have key : ∀ b ∈ fp,∃ o,s.heap.get? b = some o ∧ s'.heap.get? b = some o ∧ Kpt z b o := fun b hb => let ⟨o,e,q⟩ := U.sep b hb; ⟨o,e,x.kpt e (fun j => n b o j e q) q,q⟩
 ⟨U.W,U.nf,U.ow,U.W.frame _ _ _ U.st fun b hb o e => by obtain ⟨o',e1,e2,_⟩ := key b hb; rw [e] at e1; obtain rfl := Option.some.inj e1; exact e2,fun j v hj hv => let ⟨d,e,r⟩ := U.rd j v hj hv; ⟨d,e,r.mono x.st⟩,fun b hb => let ⟨o,_,e,q⟩ := key b hb; ⟨o,e,q⟩⟩
theorem FKeep.stp (fk : FKeep s s') (st : Stable s.heap z.lv s'.heap z.lv) {J : Addr → Prop} : Stp z J s s' := ⟨st,fun b o vs e _ d _ => fk b o e (fun _ _ q => Data.noConfusion (d.symm.trans q)) (fun _ q => Data.noConfusion (d.symm.trans q))⟩
theorem comp_item (hu : P.un = true) (ok : FOk P f) (S : St P f z E s) (hI : Wb P f I) (U : Cur P.C f.A z I fp Pv Sv all i s) {d : PyData} {t : Expr} {p : Pos} {E2 : StE} {ifs : List Expr} {b : Bool} {tr ag : Sem Fin} {K : Fin → Shared → Prop} {X : Value → Shared → Prop} {D : Addr} {o : Obj}
  (hd : all[i]? = some d) (hb : bindE P t E d = some E2) (ht : Ts P E2 ifs b) (hD : s.heap.get? D = some o) (hDo : ∃ vs n,o = lobj vs n) (h : ∀ s',St P f z E2 s' → Cur P.C f.A z I fp Pv Sv all (i + 1) s' → Stp z (· = I) s s' → s'.heap.get? D = some o → wpAny P.C.M f.A (if b = true then tr else ag) K X s') :
  wpAny P.C.M f.A (do
   standAt p
   match ← pyNext (.ref I) with
   | none => pure (.done .next)
   | some v =>
    letOwnedTupleGo t (.ref I) v
    assign t f.env v
    let ok ← forIn ifs true fun c r => if r = true then do let ok ← isTrue c f.env (eval c f.env); pure (ForInStep.yield ok) else pure (ForInStep.yield r)
    if ok = true then tr else ag) K X s := by
 refine wpAny_bind (wpAny_standAt (wpAny_bind ?_))
 refine byG fun G9 k9 => ?_
 obtain ⟨oI,nI,vI,eI,cI,dI,kI⟩ := U.ow _ _ U.st
 refine k9 ?_
 clear k9 G9
 have hlt : i < all.length := (List.getElem?_eq_some_iff.mp hd).1
 refine U.W.item i s _ _ hlt U.st fun v h1 tk1 hPv st1 hk1 => ?_
 obtain ⟨SA,stA⟩ := S.tick (tk := tk1) eI dI hI hk1
 obtain ⟨d',hd',rv⟩ := U.rd i v hlt hPv
 rw [hd] at hd'; cases hd'
 have hk1' : ∀ b o,b ≠ I → s.heap.get? b = some o → h1.get? b = some o := fun b o hb => hk1 b o (by simpa using hb)
 have hDI : D ≠ I := by rintro rfl; rw [eI] at hD; obtain rfl := Option.some.inj hD; obtain ⟨_,_,q⟩ := hDo; rw [q] at dI; cases dI
 refine wpAny_bind (letOwned (U.ow _ _ st1) ?_)
 refine wpAny_bind (SA.bindE ok hu hb (rv.mono stA) fun s2 S2 st2 fk2 => ?_)
 refine wpAny_bind (ht f z s2 ok S2 _ _ fun s3 k3 => ?_)
 have SI : Stp z (fun _ => False) { s with heap := h1,toks := tk1 } s3 := (fk2.stp st2).trans k3.stp
 have sA : Stp z (· = I) s { s with heap := h1,toks := tk1 } := ⟨stA,fun b o vs e n _ _ => hk1' b o n e⟩
 have UA : Cur P.C f.A z I fp Pv Sv all (i + 1) { s with heap := h1,toks := tk1 } := ⟨U.W,U.nf,U.ow,st1,fun j v hj hv => let ⟨d,e,r⟩ := U.rd j v hj hv; ⟨d,e,r.mono stA⟩,fun b hb => by
  by_cases hbI : b = I
  ·subst hbI
   refine byG fun G9 k9 => ?_
   obtain ⟨o,n,vs,e,_,d,_⟩ := U.ow _ _ st1
   refine k9 ?_
   clear k9 G9
   exact ⟨o,e,U.nf _ _ st1 b hb o e,.inl ⟨vs,d⟩⟩
  ·obtain ⟨o,e,q⟩ := U.sep b hb
   exact ⟨o,hk1' b o hbI e,q⟩⟩
 exact h s3 (S2.kp k3) (UA.move SI fun _ _ j => j.elim) (sA.trans ⟨SI.st,fun b o vs e _ => SI.fl b o vs e id⟩) (k3.get (by obtain ⟨_,_,q⟩ := hDo; subst q; exact fk2 D _ (hk1' D _ hDI hD) (fun _ _ q => Data.noConfusion q) lobj_ob.s.nc) (by obtain ⟨_,_,q⟩ := hDo; rw [q]; exact lobj_ob.s.nf))
theorem comp_run (hu : P.un = true) {elt : Expr} {sc : Scope} {pos : Pos} {t itE : Expr} {ifs : List Expr} {items ds : List PyData} (cr : CompR P elt t ifs E items ds) (ok : FOk P f) {D : Addr} (hI : Wb P f I) (lD : z.lv D) (wD : Wb P f D) (pD : ∀ x e,E x = some e → e.isL → z.pl x ≠ D) {Rr : Result → Shared → Prop} :
  ∀ {s : Shared} {i : Nat} {ys : List Value} {n : Nat} {ds0 : List PyData},St P f z E s → Cur P.C f.A z I fp Pv Sv all i s → items = all.drop i → i ≤ all.length →
   s.heap.get? D = some (lobj ys n) → Rds s.heap z.lv ys ds0 → ds0.length + ds.length < 2 ^ 20 →
   (∀ s' ys' n',St P f z E s' → s'.heap.get? D = some (lobj ys' n') → Rds s'.heap z.lv ys' (ds0 ++ ds) → Rr (.ok .next) s') → codeAny P.C.M f.A (.compLoop (.ListComp elt [⟨t,itE,ifs,0⟩] sc pos) 0 (.ref I) (.ref D) f.env) Rr s := by
 have nx : ∀ {all : List PyData} {i : Nat} {d : PyData} {rest : List PyData},d :: rest = all.drop i → all[i]? = some d ∧ rest = all.drop (i + 1) ∧ i < all.length := fun {all i d rest} h => by
  have hlt : i < all.length := Nat.lt_of_not_le fun q => by rw [List.drop_eq_nil_of_le q] at h; cases h
  rw [List.drop_eq_getElem_cons hlt] at h
  exact ⟨by rw [List.getElem?_eq_getElem hlt,(List.cons.inj h).1],(List.cons.inj h).2,hlt⟩
 have turn : ∀ {s : Shared},(∀ X,wpAny P.C.M f.A (compTurn (.ListComp elt [⟨t,itE,ifs,0⟩] sc pos) 0 (.ref I) (.ref D) f.env) (fun fin s' => match fin with | .done fl => Rr (.ok fl) s' | .again c' => c'.quiet = true ∧ codeAny P.C.M f.A c' Rr s') X s) → codeAny P.C.M f.A (.compLoop (.ListComp elt [⟨t,itE,ifs,0⟩] sc pos) 0 (.ref I) (.ref D) f.env) Rr s := fun {s} h => by
  refine codeAny_of_tree ?_
  show wpAny _ _ ((compTurn (.ListComp elt [⟨t,itE,ifs,0⟩] sc pos) _ (.ref _) (.ref _) _).onRaise (fun x => do noteFrame x _; theTreesLotGoes x)) _ _ _
  exact wpAny_noted (h _)
 have nI : ∀ {s : Shared} {ys : List Value} {n i : Nat},Sv i s.heap → Cur P.C f.A z I fp Pv Sv all i s → s.heap.get? D = some (lobj ys n) → D ≠ I := fun h U hD q => by
  obtain ⟨oI,nI,vI,eI,cI,dI,kI⟩ := U.ow _ _ h
  exact lobj_ob.s.nd _ (get_eq (q ▸ hD) eI ▸ dI)
 induction cr with
 | nil =>
  intro s i ys n ds0 S U hit hil hD hDr hsz hR
  refine turn fun X => ?_
  rw [compTurn_one]
  have hi : i = all.length := Nat.le_antisymm hil (List.drop_eq_nil_iff.mp hit.symm)
  refine byG fun G9 k9 => ?_
  obtain ⟨oI,nI',vI,eI,cI,dI,kI⟩ := U.ow _ _ U.st
  refine k9 ?_
  clear k9 G9
  refine wpAny_bind (wpAny_standAt (wpAny_bind (U.W.done s _ _ (hi ▸ U.st) fun h1 tk1 hk1 => ?_)))
  obtain ⟨SA,stA⟩ := S.tick (tk := tk1) eI dI hI hk1
  exact wpAny_pure (hR _ ys n SA (hk1 D _ (fun q => nI U.st U hD (List.mem_singleton.mp q)) hD) (by rw [List.append_nil]; exact hDr.mono stA))
 | skip hb sub ht hr ih =>
  intro s i ys n ds0 S U hit hil hD hDr hsz hR
  refine turn fun X => ?_
  rw [compTurn_one]
  obtain ⟨h1,h2,h3⟩ := nx hit
  refine comp_item hu ok S hI U h1 hb ht hD ⟨_,_,rfl⟩ fun s3 S3 U3 st3 hD3 => ?_
  exact wpAny_pure ⟨rfl,ih (S3.sub sub) U3 h2 h3 hD3 (hDr.mono st3.st) hsz hR⟩
 | last hb sub ht he hr ih =>
  intro s i ys n ds0 S U hit hil hD hDr hsz hR
  refine turn fun X => ?_
  rw [compTurn_one]
  obtain ⟨h1,h2,h3⟩ := nx hit
  refine comp_item hu ok S hI U h1 hb ht hD ⟨_,_,rfl⟩ fun s3 S3 U3 st3 hD3 => ?_
  rw [if_pos rfl]
  refine wpAny_bind (wpAny_bind (he f z s3 ok S3 _ _ fun w s4 k4 r4 => wpAny_bind ?_))
  have S4 := S3.kp k4
  have hD4 := k4.get hD3 lobj_ob.s.nf
  have hlen := hDr.length
  rw [List.length_cons] at hsz
  refine wpAny_list_append_plain (l := D) ⟨n,hD4⟩ (fun h' ⟨n',hl'⟩ hs' => wpAny_pure (wpAny_pure ?_)) (by rw [List.size_toArray,hlen,sizeLine_eq]; omega)
  have e5 : h'.get? D = some (lobj (ys ++ [w]) n') := hl'.trans (by unfold lobj; rw [List.push_toArray])
  have hk : ∀ b o,b ≠ D → s4.heap.get? b = some o → h'.get? b = some o := fun b o hb e => (hs'.2 b hb).trans e
  have md : Md P.C.lo (· = D) s4 { s4 with heap := h' } := rest_md (tk := s4.toks) hk hD4 lobj_ob.s.nf ⟨_,e5,lobj_ob.s.nd⟩
  have hW : ∀ b,b = D → Wr P f z s4 b := fun b q => by
   subst q
   refine ⟨wD,fun o e => ?_⟩
   rw [get_eq hD4 e]
   refine ⟨lobj_ob.s.nc,fun _ _ c => (lobj_ob.s.nf c).elim,fun q => ?_,.inl lD,fun c => (lobj_ob.nt c).elim⟩
   obtain ⟨m,o,_,_,e,d,_⟩ := S4.ns
   rw [← q,hD4] at e; rw [← Option.some.inj e] at d; cases d
  have st := Wr.stable (z' := z) md hW fun _ => .inl
  have S5 := S4.sub sub
  have S6 := S5.move md (fun b q => ⟨(hW b q).wb,(hW b q).ob⟩) (.refl st) (fun x e h => .inl ⟨h,rfl,fun l => pD x e h l,fun T fin q => ⟨rfl,rfl,fun b p w => by
   have w : b = D := w
   subst w
   obtain ⟨o,e,t⟩ := (S5.er x _ (q ▸ h)).tree.L.ob p
   rw [get_eq hD4 e] at t
   exact t.c.1 rfl⟩⟩) S5.ij
  have sp : Stp z (fun b => b = D) s4 { s4 with heap := h' } := ⟨st,fun b o vs e n _ _ => hk b o n e⟩
  refine ⟨rfl,ih S6 (U3.move (k4.stp.trans sp) fun b o q e kp => ?_) h2 h3 e5 (((hDr.mono st3.st).kp k4).mono st |>.append (.cons (Rd.mono st r4) .nil)) (by rw [List.length_append]; rw [List.length_singleton,Nat.add_assoc,Nat.add_comm 1]; exact hsz) fun s' ys' n' S' hD' hr' => hR s' ys' n' S' hD' (by rw [List.append_assoc] at hr'; exact hr')⟩
  have q : b = D := q
  subst q
  rw [get_eq hD3 e] at kp
  obtain ⟨_,⟨vs,d⟩ | ⟨c,_⟩ | ⟨_,nl⟩⟩ := kp
  ·cases d
  ·exact lobj_ob.nt c
  ·exact nl lD
end
end
section
section
variable {M : Model} {A : Around} {E : Value → Shared → Prop} {s : Shared}
theorem newFunctionEnv_around {scope : Scope} {globals : Addr} {cl : List (Str × Addr)} {qual : Str} {env : Env} {Q : Env → Shared → Prop}
  (h : Q { scope := scope,locals := s.heap.objs.size,globals := globals,cells := cellsFrom (s.heap.objs.size + 1) scope.names cl,qual := qual,func := none,code := env.code,frame := env.frame,builtins := env.builtins }
   { s with heap := pushCells (s.heap.push { cls := .type "dict",data := .dict #[] }) scope.names }) :
  wpAny M A (newFunctionEnv scope globals cl [] qual none .none (some env)) Q E s := by
 simp only [newFunctionEnv,Option.isSome_some,if_true]
 refine wpAny_bind (wpAny_alloc ?_)
 refine wpAny_bind (wpAny_layCells _ (fun name kind cells => by cases hkc : kind == NameKind.cell <;> simp [hkc]) _ _ _ _ ?_)
 rw [show ({ s with heap := s.heap.push { cls := .type "dict",data := .dict #[] } } : Shared).heap.objs.size = s.heap.objs.size + 1 from Heap.size_push ..]
 exact wpAny_bind (wpAny_pure (wpAny_pure h))
end
theorem swaps_comp {elt : Expr} {gens : List Comprehension} {sc : Scope} {pos : Pos} {x : Str} {xp : Pos} {n : Nat} {env : Env} : ∃ b,swapsWith (.ListComp elt gens sc pos) (some (.Name x xp)) n env = pure b := ⟨_,rfl⟩
noncomputable def maskE (cn : Nm) (E : StE) : StE := fun x => match cn.lookup x,E x with
 | some .free,some (.val v) => some (.val v)
 | _,_ => none
theorem maskE_inv {cn : Nm} {E : StE} {x : Str} {e : Ent} (h : maskE cn E x = some e) : ∃ v,cn.lookup x = some .free ∧ E x = some (.val v) ∧ e = .val v := by
 unfold maskE at h
 generalize cn.lookup x = a at h
 generalize E x = b at h
 cases a with
 | none => exact none_some h
 | some k =>
  cases k with
  | free =>
   cases b with
   | none => exact none_some h
   | some e' =>
    cases e' with
    | val v => exact ⟨v,rfl,rfl,(Option.some.inj h).symm⟩
    | _ => exact none_some h
  | _ => exact none_some h
theorem maskE_nl {cn : Nm} {E : StE} {x : Str} {e : Ent} {P : Prop} (h : maskE cn E x = some e) (l : e.isL) : P := by
 obtain ⟨v,_,_,rfl⟩ := maskE_inv h
 exact l.elim
noncomputable def compOk (names : Nm) (sc : Scope) : Bool :=
 (match sc.kind with | .function => true | _ => false) &&
 sc.names.all (fun x => match x.2 with
  | .free => (match names.lookup x.1 with | some .cell | some .free => true | _ => false)
  | _ => true) &&
 decide ((sc.names.map (·.1)).Nodup)
structure CompOk (names : Nm) (sc : Scope) : Prop where
 kind : sc.kind = .function
 free : ∀ x,(x,NameKind.free) ∈ sc.names → names.lookup x = some .cell ∨ names.lookup x = some .free
 nd : (sc.names.map (·.1)).Nodup
theorem compOk_ok {names : Nm} {sc : Scope} (h : compOk names sc = true) : CompOk names sc := by
 unfold compOk at h
 simp only [Bool.and_eq_true,decide_eq_true_eq,List.all_eq_true] at h
 obtain ⟨⟨h1,h2⟩,h3⟩ := h
 refine ⟨?_,fun x hx => ?_,h3⟩
 ·revert h1; cases sc.kind <;> simp
 ·have := h2 _ hx
  dsimp only at this
  split at this
  ·rename_i e; exact .inl e
  ·rename_i e; exact .inr e
  ·cases this
section
variable {P : Pr} {f : Fx} {z : Lc} {E : StE} {s s₁ s₂ : Shared}
theorem comp_kinds {env : Env} {sc : Scope} {cenv : Env} (hs : cenv.scope = relabel sc env) (x : Str) : cenv.kindOf x = (sc.names.lookup x).map fun k => if (k == NameKind.free && env.scope.kind == .function && env.kindOf x == some .cell) then NameKind.cell else k := by
 unfold Env.kindOf
 rw [hs]
 exact lookup_relabel
theorem comp_core (hu : P.un = true) {elt t it : Expr} {ifs : List Expr}  {sc : Scope} {pos : Pos} {items ds : List PyData} {I : Addr} {fp : List Addr} {Pv : Nat → Value → Prop} {Sv : Nat → Heap → Prop} {RR : Value → Addr → Result → Shared → Prop} {X : Value → Shared → Prop}
  (ok : FOk P f) (S : St P f z E s₁) (O : CompOk P.names sc) (cr : CompR ⟨P.C,P.R,sc.names,P.un,.law⟩ elt t ifs (maskE sc.names E) items ds) (hf : ds.length < 2 ^ 20)
  (k12 : Kp P.C.lo s₁ s₂) (hI : s₁.heap.get? I = none) (U : Itr P.C f.A z.lv I fp Pv Sv items s₂)
  (hRR : ∀ D Cl s' ys' n',P.C.lo ≤ D → s₁.heap.get? D = none → s₁.heap.get? Cl = none → D ≠ Cl → (∃ m,s'.heap.Ns Cl m) → Kp P.C.lo s₁ s' → s'.heap.get? D = some (lobj ys' n') → Rds s'.heap (fun b => z.lv b ∨ b = D ∨ b = Cl) ys' ds → RR (.ref D) Cl (.ok .next) s') :
  wpAny P.C.M f.A (newList []) (fun acc s₃ => wpAny P.C.M f.A (newFunctionEnv sc f.env.globals (closOf f.env sc.names []) [] f.env.qual none .none (some f.env)) (fun cenv s₄ =>
   codeAny P.C.M f.A (.compStart (.ListComp elt [⟨t,it,ifs,0⟩] sc pos) 0 (.ref I) acc { cenv with scope := relabel sc f.env }) (RR acc cenv.locals) s₄) X s₃) X s₂ := by
 refine wpAny_newObj_type (newFunctionEnv_around ?_)
 dsimp only
 have S2 := S.kp k12
 generalize hD : s₂.heap.objs.size = D
 generalize hH1 : s₂.heap.push { cls := .type "list",dict := none,data := .seq ([] : List Value).toArray } = H1
 have hCl : H1.objs.size = D + 1 := by rw [← hH1,Heap.size_push,hD]
 rw [hCl]
 generalize hH2 : H1.push { cls := .type "dict",data := .dict #[] } = H2
 have hS2 : H2.objs.size = D + 1 + 1 := by rw [← hH2,Heap.size_push,hCl]
 have co := cellsFrom_ok sc.names H2 (D + 1 + 1) [] ⟨fun _ _ hm => (nomatch hm),List.Pairwise.nil⟩ (by rw [hS2]; exact Nat.le_refl _)
 rw [hS2] at co
 generalize hH3 : pushCells H2 sc.names = H3 at co ⊢
 rw [cellsFrom_app]
 generalize hown : cellsFrom (D + 1 + 1) sc.names [] = own at co ⊢
 have old : ∀ b o,s₂.heap.get? b = some o → H3.get? b = some o := fun b o e => by
  rw [← hH3,← hH2,← hH1]; exact pushCells_keeps _ _ _ _ (Heap.get?_push_of_some _ (Heap.get?_push_of_some _ e))
 have eD : H3.get? D = some (lobj [] 0) := by
  rw [← hH3,← hH2,← hH1]; refine pushCells_keeps _ _ _ _ (Heap.get?_push_of_some _ ?_); rw [← hD]; exact Heap.get?_push_size _ rfl
 have eC : H3.get? (D + 1) = some { cls := .type "dict",data := .dict #[] } := by
  rw [← hH3,← hH2]; refine pushCells_keeps _ _ _ _ ?_; rw [← hCl]; exact Heap.get?_push_size _ rfl
 have nC : H3.Ns (D + 1) (fun _ => none) := by
  have := (Heap.Ns.new H1 (.type "dict")).keeps (h' := H3) (by rw [← hH3,← hH2]; exact pushCells_keeps _ _)
  rw [hCl] at this
  exact this
 have k24 : Kp P.C.lo s₂ { s₂ with heap := H3 } := Kp.of_keep (tk := s₂.toks) old
 have k14 := k12.trans k24
 have lt2 : ∀ {b o},s₂.heap.get? b = some o → b < D := fun e => hD ▸ Heap.lt_size e
 have fr1 : ∀ b,D ≤ b → s₁.heap.get? b = none := fun b hb => by
  cases e : s₁.heap.get? b with
  | none => rfl
  | some o =>
   obtain ⟨o',e',_⟩ := k12.heap b o e
   exact absurd (Nat.lt_of_lt_of_le (lt2 e') hb) (Nat.lt_irrefl _)
 have ownlo : ∀ x c,(x,c) ∈ own → D + 1 + 1 ≤ c := fun x c hm => (co.empty x c hm).2
 have d1 : s₁.heap.get? D = none := fr1 D (Nat.le_refl _)
 have d2 : s₁.heap.get? (D + 1) = none := fr1 _ (Nat.le_succ _)
 have down : ∀ x c,(x,c) ∈ own → s₁.heap.get? c = none := fun x c hm => fr1 c (Nat.le_trans (Nat.le_succ_of_le (Nat.le_succ _)) (ownlo x c hm))
 have wb : ∀ b,s₁.heap.get? b = none → ∀ f' : Fx,f'.s₀ = s₁ → Wb ⟨P.C,P.R,sc.names,P.un,.law⟩ f' b := fun b h f' e => ⟨On_none S.on h,.inr (e ▸ h)⟩
 generalize hce : ({ scope := relabel sc f.env,locals := D + 1,globals := f.env.globals,cells := own ++ closOf f.env sc.names [],qual := f.env.qual,func := none,code := f.env.code,frame := f.env.frame,builtins := f.env.builtins } : Env) = cenv
 have ceL : cenv.locals = D + 1 := by rw [← hce]
 have ceC : cenv.cells = own ++ closOf f.env sc.names [] := by rw [← hce]
 have ceK := comp_kinds (env := f.env) (sc := sc) (cenv := cenv) (by rw [← hce])
 have cf : ∀ x,sc.names.lookup x = some .cell ∨ sc.names.lookup x = some .free → cenv.kindOf x = some .cell ∨ cenv.kindOf x = some .free := fun x hx => by
  rw [ceK]
  rcases hx with e | e <;> rw [e] <;> simp <;> (by_cases h : f.env.scope.kind = .function ∧ f.env.kindOf x = some .cell <;> simp_all)
 have noown : ∀ x,sc.names.lookup x = some .free → own.lookup x = none := fun x hx => by
  cases ho : own.lookup x with
  | none => rfl
  | some c' =>
   have hm' := mem_of_lookup ho
   rw [← hown] at hm'
   have := lookup_nodup O.nd (cellsFrom_mem hm')
   rw [hx] at this; cases this
 have fcell : ∀ x,sc.names.lookup x = some .free → ∃ c,f.env.cells.lookup x = some c ∧ (closOf f.env sc.names []).lookup x = some c := fun x hx => by
  have hm := mem_of_lookup hx
  obtain ⟨c,hc⟩ := Option.isSome_iff_exists.mp (ok.cf x (O.free x hm)).2
  exact ⟨c,hc,by rw [closOf_free hm,hc]; rfl⟩
 let f' : Fx := ⟨f.A,cenv,own,closOf f.env sc.names [],s₁,z.lv,fun _ => False,z.lv,z⟩
 let z' : Lc := ⟨fun b => z.lv b ∨ b = D ∨ b = D + 1,z.kt,z.dx,z.ad,z.pl⟩
 have ok' : FOk ⟨P.C,P.R,sc.names,P.un,.law⟩ f' := by
  refine ⟨⟨by show cenv.scope.kind = _; rw [← hce]; exact O.kind,by show cenv.globals = _; rw [← hce]; exact ok.ok.gl,by show cenv.builtins = _; rw [← hce]; exact ok.ok.bl⟩,fun x hx => ?_,fun x e => (ceK x).trans (by rw [show sc.names.lookup x = _ from e]; rfl),fun x hx => ⟨cf x hx,?_⟩,ceC,co.apart,fun x c hm y c' hm' => ?_,?_,wb _ (by show s₁.heap.get? cenv.locals = none; rw [ceL]; exact d2) f' rfl,fun x c hm => wb _ (down x c hm) f' rfl,fun b o h => h.elim,ok.un,ok.gb,nofun⟩
  ·have hx : isLC sc.names x = true := hx
   unfold isLC at hx
   show cenv.kindOf x = _ ∨ (cenv.kindOf x = _ ∧ _)
   rw [ceK]
   split at hx
   ·rename_i e; left; rw [e]; rfl
   ·rename_i e; right; rw [e]; exact ⟨rfl,by show (own.lookup x).isSome = true; rw [← hown]; exact cellsFrom_has (mem_of_lookup e)⟩
   ·cases hx
  ·show (cenv.cells.lookup x).isSome = true
   rw [ceC,List.lookup_append]
   rcases hx with e | e
   ·obtain ⟨c,hc⟩ := Option.isSome_iff_exists.mp (cellsFrom_has (n := D + 1 + 1) (mem_of_lookup e))
    rw [hown] at hc; rw [hc]; rfl
   ·obtain ⟨c,_,hc⟩ := fcell x e
    rw [noown x e,hc]; rfl
  ·rcases closOf_mem hm' with q | ⟨q,e⟩
   ·cases q
   ·obtain ⟨c1,hc1,_⟩ := fcell y (lookup_nodup O.nd q)
    rw [hc1] at e
    have e : c' = c1 := e
    have hm2 := mem_of_lookup hc1
    rw [ok.ce] at hm2
    obtain ⟨w,o,e2,_⟩ := S.oc y c1 hm2
    have := ownlo x c hm
    have e3 := down x c hm
    rintro q
    rw [q,e,e2] at e3; cases e3
  ·show P.C.lo ≤ cenv.locals
   rw [ceL,← hD]
   exact Nat.le_succ_of_le (S2.size ok)
 have up : Up f' s₁ z { s₂ with heap := H3 } z' := ⟨⟨(k14.stable z.lv).keep,(k14.stable z.lv).tup,fun b o e _ l => by
   rcases l with l | l | l
   ·exact l
   ·rw [l,d1] at e; cases e
   ·rw [l,d2] at e; cases e⟩,fun b l => l.imp id fun q => by
   rcases q with rfl | rfl
   ·exact ⟨d1,_,eD,(fun _ q => Data.noConfusion q)⟩
   ·exact ⟨d2,_,eC,(fun _ q => Data.noConfusion q)⟩,fun _ => .inl,rfl,rfl,fun _ _ e => e⟩
 have S4 : St ⟨P.C,P.R,sc.names,P.un,.law⟩ f' z' (maskE sc.names E) { s₂ with heap := H3 } := by
  refine ⟨S.on.kp k14,S.rm.kp k14,k14.md,fun b l => ?_,fun b l => (up.nw b l).imp id fun q => q.1,.inr (.inr ceL),fun b l => .inl l,⟨_,ceL ▸ nC⟩,fun x c hm => ?_,fun x e he => ?_,fun x y e e' h1 h2 l => ?_,nofun⟩
  ·rcases up.nw b l with l | ⟨_,q⟩
   ·obtain ⟨o,e,hn⟩ := S.lt b l
    obtain ⟨o',e',hl⟩ := k14.heap b o e
    exact ⟨o',e',hl.data ▸ hn⟩
   ·exact q
  ·rcases List.mem_append.mp hm with hm | hm
   ·exact ⟨_,(co.empty x c hm).1⟩
   ·rcases closOf_mem hm with q | ⟨q,e⟩
    ·cases q
    ·obtain ⟨c1,hc1,_⟩ := fcell x (lookup_nodup O.nd q)
     rw [hc1] at e
     have e : c = c1 := e
     have hm2 := mem_of_lookup hc1
     rw [ok.ce] at hm2
     exact (S.oc x c (e ▸ hm2)).imp fun v h => k14.cell h
  ·obtain ⟨v,hl,hv,rfl⟩ := maskE_inv he
   ·obtain ⟨w,sl,r⟩ := (S.er x _ hv).val
    refine .slot w ?_ (VR.up (P := P) up r)
    cases sl with
    | loc m k o n e => rcases (ok.cf x (O.free x (mem_of_lookup hl))).1 with q | q <;> rw [k] at q <;> cases q
    | cell c k o l e =>
     obtain ⟨c',h1,h2⟩ := fcell x hl
     rw [l] at h1; obtain rfl := Option.some.inj h1
     exact .cell c (cf x (.inr hl)) o (by show cenv.cells.lookup x = _; rw [ceC,List.lookup_append,noown x hl]; exact h2) (k14.cell e)
  ·exact maskE_nl h1 l
 have nlt : ∀ b,b < D → ¬ (b = D ∨ b = D + 1) := fun b h q => by
  rcases q with rfl | rfl
  ·exact Nat.lt_irrefl _ h
  ·exact absurd h (Nat.not_lt.mpr (Nat.le_succ _))
 have U3 : Cur P.C f.A z' I fp Pv Sv items 0 { s₂ with heap := H3 } := ⟨U.W,U.nf,U.own,U.W.frame _ _ _ U.st fun b _ o e => old b o e,fun j v hj hv => let ⟨d,e,r⟩ := U.rd j v hj hv; ⟨d,e,r.mono ⟨(k24.stable z.lv).keep,(k24.stable z.lv).tup,fun b o e _ l => l.elim id fun q => (nlt b (lt2 e) q).elim⟩⟩,fun b hb => by
  obtain ⟨o,e,h1,h2⟩ := U.sep' (z := z) rfl b hb
  have hlt := lt2 e
  exact ⟨o,old b o e,h1,h2.imp id fun q => q.imp id fun q => ⟨q.1,fun l => l.elim q.2 (nlt b hlt)⟩⟩⟩
 refine codeAny_compStart (gens := [⟨t,it,ifs,0⟩]) rfl ?_ (fun Q E q => U.W.self 0 _ Q E U3.st q)
 rw [← ceL]
 refine comp_run (P := ⟨P.C,P.R,sc.names,P.un,.law⟩) (f := f') (z := z') (itE := it) hu cr ok' (wb _ hI f' rfl) (.inr (.inl rfl)) (wb _ d1 f' rfl) (fun x e h l => ?_) S4 U3 rfl (Nat.zero_le _) eD .nil (by rw [List.length_nil,Nat.zero_add]; exact hf) fun s' ys' n' S' hD' hr' => ?_
 ·exact maskE_nl h l
 ·have md := S'.md
  refine hRR D cenv.locals s' ys' n' (hD ▸ S2.size ok) d1 (ceL ▸ d2) (by rw [ceL]; exact Nat.ne_of_lt (Nat.lt_succ_self D)) S'.ns ⟨fun b o e => md.heap b o e id,md.os,md.gens⟩ hD' ?_
  rw [ceL]; exact hr'
end
section
variable {P : Pr} {f : Fx} {z : Lc} {E : StE} {s : Shared}
structure CompE (P : Pr) (E : StE) (elt t it : Expr) (ifs : List Expr) (sc : Scope) (items ds : List PyData) : Prop where
 ok : compOk P.names sc = true
 hi : It P E it items
 cr : CompR ⟨P.C,P.R,sc.names,P.un,.law⟩ elt t ifs (maskE sc.names E) items ds
 hf : ds.length < 2 ^ 20
theorem comp_wp (hu : P.un = true) {elt t it : Expr} {ifs : List Expr}  {sc : Scope} {pos pos' : Pos} {items ds : List PyData} {use : Option (Value → Sem Unit)} {Q X : Value → Shared → Prop} (c : CompE P E elt t it ifs sc items ds) (ok : FOk P f) (S : St P f z E s)
  (h : ∀ D Cl s' ys' n',P.C.lo ≤ D → s.heap.get? D = none → s.heap.get? Cl = none → D ≠ Cl → (∃ m,s'.heap.Ns Cl m) → Kp P.C.lo s s' → s'.heap.get? D = some (lobj ys' n') → Rds s'.heap (fun b => z.lv b ∨ b = D ∨ b = Cl) ys' ds → compPost P.C.M f.A X use Q (.ref D) Cl (.ok .next) s') :
  wpAny P.C.M f.A (comprehension (.ListComp elt [⟨t,it,ifs,0⟩] sc pos) sc f.env pos' (newList []) false (eval it f.env) use) Q X s := by
 have O := compOk_ok c.ok
 refine wpAny_comprehension_free (cl := closOf f.env sc.names []) rfl (c.hi.1 f.env) (closureFor_eq fun x hx hk => ?_) O.kind (fun x hx hk => ?_) ?_
 ·obtain ⟨x,k⟩ := x
  have hk : k = .free := hk
  subst hk
  exact (ok.cf x (O.free x hx)).2
 ·obtain ⟨x,k⟩ := x
  have hk : k = .local := hk
  subst hk
  exact lookup_nodup O.nd hx
 refine c.hi.2 f z s ok S _ _ fun xv s1 k1 J => J _ _ fun I fp Pv Sv s2 k2 hI hIf hfp U => ?_
 have up : ∀ b,s1.heap.get? b = none → s.heap.get? b = none := fun b hb => by
  cases e : s.heap.get? b with
  | none => rfl
  | some o => obtain ⟨o',e',_⟩ := k1.heap b o e; rw [hb] at e'; cases e'
 exact comp_core (RR := fun acc Cl => compPost P.C.M f.A X use Q acc Cl) hu ok (S.kp k1) O c.cr c.hf k2 hI U fun D Cl s' ys' n' lo hD hCl hne hm k' l' r' =>
  h D Cl s' ys' n' lo (up D hD) (up Cl hCl) hne hm (k1.trans k') l' r'
theorem l_comp (hu : P.un = true) {elt t it : Expr} {ifs : List Expr}  {sc : Scope} {pos : Pos} {items ds : List PyData} (c : CompE P E elt t it ifs sc items ds) : Xl P E (.ListComp elt [⟨t,it,ifs,0⟩] sc pos) ds := fun f z s ok S Q X q => by
 show wpAny P.C.M f.A (comprehension (.ListComp elt [⟨t,it,ifs,0⟩] sc pos) sc f.env _ (newList []) _ (eval it f.env) none) Q X s
 refine comp_wp hu c ok S fun D Cl s' ys' n' lo hD hCl hne ⟨m,hm⟩ k' l' r' => ⟨m,hm,fun h' hs' => ?_⟩
 obtain ⟨o,es,ep,e0,d0,_⟩ := id hm
 refine q D ys' n' _ ⟨fun b o e => ?_,k'.os,k'.gens⟩ lo hD ((hs'.2 D hne).trans l') (r'.mono ⟨fun b o e n _ => (hs'.2 b fun q => n (.inr (.inr q))).trans e,fun b o vs n e c d => (hs'.2 b fun q => ?_).trans e,fun b o e _ l => l.imp id .inl⟩)
 ·obtain ⟨o',e',l⟩ := k'.heap b o e
  exact ⟨o',(hs'.2 b (by rintro rfl; rw [hCl] at e; cases e)).trans e',l⟩
 ·subst q; rw [e0] at e; obtain rfl := Option.some.inj e; rw [d0] at d; cases d
theorem WS_comp {en : Ent} (hu : P.un = true) {elt t it : Expr} {ifs : List Expr}  {sc : Scope} {pos xp sp : Pos} {x : Str} {items ds : List PyData} (hx : isLC P.names x = true) (ho : okName x = true) (c : CompE P E elt t it ifs sc items ds) (hen : en = .val (.dat (.list ds)) ∨ en = .live ds) :
  WS P E (.Assign [.Name x xp] (.ListComp elt [⟨t,it,ifs,0⟩] sc pos) sp) fun fl E' => fl = .next ∧ E' = setE E x en := by
 have hl := l_comp hu c (pos := pos)
 intro f z s ok S X
 obtain ⟨b,hb⟩ := swaps_comp (elt := elt) (gens := [⟨t,it,ifs,0⟩]) (sc := sc) (pos := pos) (x := x) (xp := xp) (n := sp.line) (env := f.env)
 cases b with
 | false =>
  refine wpAny_Assign_Name (hl f z s ok S _ _ fun a vs n s' k lo hn ha r => ?_) hb
  rcases hen with rfl | rfl
  ·exact (S.kp k).store ok hx ho (v := .dat (.list ds)) (Rd.list ⟨_,ha,rfl,n,rfl⟩ (r.less fun b => .inl) fun l => let ⟨_,e⟩ := S.lt' a l; by rw [hn] at e; cases e) fun s2 S2 _ _ => ⟨.next,_,z,S2,rfl,rfl,rfl⟩
  ·exact S.born ok k lo hn ha (e := .live ds) trivial hx ho ⟨vs,n,rfl,r⟩ fun z' s2 S2 _ => ⟨.next,_,z',S2,rfl,rfl,rfl⟩
 | true =>
  rw [exec_Assign_Name_used _ _ _ _ hb]
  refine wpAny_bind (wpAny_standAt (wpAny_bind ?_))
  show wpAny _ f.A (do let _ ← comprehension (.ListComp elt [⟨t,it,ifs,0⟩] sc pos) sc f.env it.pos (newList []) false (eval it f.env) (some (assign (.Name x xp) f.env))) _ _ s
  refine wpAny_bind (wpAny_mono (comp_wp hu c ok S (use := some (assign (.Name x xp) f.env)) (Q := fun _ s' => Aft P f (fun fl E' => fl = .next ∧ E' = setE E x en) .next s') fun D Cl s' ys' n' lo hD hCl hne ⟨mm,hm⟩ k' l' r' => ?_) (fun _ s' hq => wpAny_pure (wpAny_pure hq)) fun _ _ e => e)
  show wpAny _ f.A (assign (.Name x xp) f.env (.ref D)) _ _ _
  refine wpAny_assign_Name (store_wp ok (S.kp k').ns (S.kp k').oc hx fun s2 b sa fk => ?_)
  have hbC : Cl ≠ b := by
   obtain ⟨o,o',e,_,h⟩ := sa.ob
   rintro rfl
   rcases h with ⟨q,_⟩ | ⟨_,hm2,_⟩
   ·obtain ⟨m,o,_,_,e,_⟩ := S.ns
    rw [← q,hCl] at e; cases e
   ·obtain ⟨w,o,e,_⟩ := S.oc x Cl (List.mem_append_left _ hm2)
    rw [hCl] at e; cases e
  refine ⟨mm,hm.at fun o e => sa.sb Cl o hbC e,fun h' hs' => ?_⟩
  have J : Jk s s2 { s2 with heap := h' } := ⟨fun b o o0 e0 e => (hs'.2 b (by rintro rfl; rw [hCl] at e0; cases e0)).trans e,rfl,rfl⟩
  have e3 : h'.get? D = some (lobj ys' n') := (hs'.2 D hne).trans (fk D _ l' (fun _ _ q => Data.noConfusion q) lobj_ob.s.nc)
  have hb : ∀ o,s'.heap.get? b = some o → (z.lv b ∨ ¬ Solid o) ∧ ∀ vs n,o.data ≠ .seq vs n := fun o e => by
   refine byG fun G9 k9 => ?_
   obtain ⟨o1,o2,e1,_,h⟩ := sa.ob
   refine k9 ?_
   clear k9 G9
   rw [e] at e1; obtain rfl := Option.some.inj e1
   rcases h with ⟨q,⟨m,⟨o',es,ep,e',d,_⟩,_⟩,_⟩ | ⟨_,_,_,⟨v,d⟩,_⟩
   ·rw [e] at e'; cases e'
    exact ⟨.inl (q ▸ S.ll),(fun _ _ q => Data.noConfusion (d.symm.trans q))⟩
   ·exact ⟨.inr fun q => q.nc _ d,(fun _ _ q => Data.noConfusion (d.symm.trans q))⟩
  have r3 : Rds h' (fun b => z.lv b ∨ b = D) ys' ds := r'.mono ⟨fun c o e n cs => (hs'.2 c fun q => n (.inr (.inr q))).trans (sa.sb c o (fun q => by subst q; exact (hb o e).1.elim (fun l => n (.inl l)) fun q => q cs) e),fun c o vs k e cl d => (hs'.2 c fun q => by
   subst q
   obtain ⟨o',es,ep,e',d',_⟩ := hm
   rw [e] at e'; cases e'; rw [d] at d'; cases d').trans (sa.sb c o (fun q => by subst q; exact (hb o e).2 vs k d) e),fun c o e _ l => l.imp id .inl⟩
  rcases hen with rfl | rfl
  ·exact ⟨.next,_,z,(S.stored (z' := z) (e := .val (.dat (.list ds))) ok k' sa J ho (fun _ => .inl) (fun _ => id) ⟨rfl,rfl,rfl⟩ (fun _ _ => rfl) (fun _ => Rd.list ⟨_,e3,rfl,n',rfl⟩ (r3.less fun b => .inl) fun l => let ⟨_,e⟩ := S.lt' D l; by rw [hD] at e; cases e) fun l => l.elim).1,rfl,rfl,rfl⟩
  ·obtain ⟨z',S3⟩ := S.bornJ ok k' sa J lo hD e3 (e := .live ds) trivial ho ⟨ys',n',rfl,r3⟩
   exact ⟨.next,_,z',S3,rfl,rfl,rfl⟩
end
end
section
noncomputable def refN (o : Option Nat) : V := o.elim (.dat .none) .nd
noncomputable def kwN (o : Option (List Int)) : V := o.elim (.dat .none) fun k => .dat (wordD k)
noncomputable def symN (o : Option Int) : V := o.elim (.dat .none) fun c => .dat (.int c)
noncomputable def slotV (n : PNd) (i : Nat) : Nat → Option V
 | 0 => some (.dat (.int i))
 | 1 => some (refN n.lss)
 | 2 => some (kwN n.kw)
 | 3 => n.outs.map fun l => .dat (outsD l)
 | 4 => some (refN n.par)
 | 5 => some (.dat (.bool n.suc))
 | 6 => some (symN n.sym)
 | 7 => some (.tab i)
 | _ => none
section
variable {C : Cx} {h : Heap} {z : Lc} {i : Nat} {n : PNd} {a : Ad} {ox : Obj}
theorem rd_t {v : Value} {d : PyData} (r : RdT h v d) : Rd h z.lv v d := Rd.less r fun _ _ => trivial
theorem tup_handed {v : Value} {xs : List PyData} (r : RdT h v (.tuple xs)) : handedIn v = true := by obtain ⟨b,vs,rfl,_⟩ := r.tuple_inv; rfl
theorem ref_of {o : Option Nat} {w : Value} (r : refV z.ad o w) : VR C h z (refN o) w ∧ handedIn w = true := by
 cases o with
 | none => cases r; exact ⟨rd_none,rfl⟩
 | some j => obtain ⟨b,hb,rfl⟩ := r; exact ⟨⟨b,hb,rfl⟩,rfl⟩
theorem kw_of {o : Option (List Int)} {w : Value} (r : kwV h o w) : VR C h z (kwN o) w ∧ handedIn w = true := by
 cases o with
 | none => cases r; exact ⟨rd_none,rfl⟩
 | some k => exact ⟨rd_t r,tup_handed r⟩
theorem sym_of {o : Option Int} {w : Value} (r : symV o w) : VR C h z (symN o) w ∧ handedIn w = true := by
 cases o with
 | none => cases r; exact ⟨rd_none,rfl⟩
 | some c => obtain ⟨t,rfl⟩ := r; exact ⟨rd_int,rfl⟩
theorem ObAt.sl (O : ObAt h z.ad i n a ox) (ha : z.ad[i]? = some a) : ∀ {k : Nat} {v : V},slotV n i k = some v → ∃ w,Mine.sl ox k = some w ∧ VR C h z v w ∧ handedIn w = true
 | 0,_,e => by cases e; obtain ⟨t,e⟩ := O.s0; exact ⟨_,e,rd_int,rfl⟩
 | 1,_,e => by cases e; obtain ⟨w,e,r⟩ := O.s1; exact ⟨w,e,ref_of r⟩
 | 2,_,e => by
  cases e; obtain ⟨w,e,r⟩ := O.s2
  exact ⟨w,e,kw_of r⟩
 | 3,_,e => by
  have r := O.s3
  obtain ⟨l,hl,rfl⟩ := Option.map_eq_some_iff.mp e
  rw [hl] at r
  obtain ⟨w,e,r⟩ := r
  exact ⟨w,e,rd_t r,tup_handed r⟩
 | 4,_,e => by cases e; obtain ⟨w,e,r⟩ := O.s4; exact ⟨w,e,ref_of r⟩
 | 5,_,e => by cases e; exact ⟨_,O.s5,rd_bool,rfl⟩
 | 6,_,e => by
  cases e; obtain ⟨w,e,r⟩ := O.s6
  exact ⟨w,e,sym_of r⟩
 | 7,_,e => by cases e; exact ⟨_,O.s7,⟨a,ha,rfl⟩,rfl⟩
 | _ + 8,_,e => by cases e
end
section
variable {P : Pr} {f : Fx} {z z' : Lc} {E : StE} {s s' : Shared} {T T' : TS} {fin fin' : Bool} {i j : Nat} {n : PNd} {c : Int}
theorem TrW.nd (t : TrW P f z s.heap T fin) (hn : T.T[i]? = some n) : ∃ a,z.ad[i]? = some a ∧ NdAt P.C s.heap z.ad i n a := by
 have hi : i < z.ad.length := by rw [t.L.th.len]; exact (List.getElem?_eq_some_iff.mp hn).1
 exact ⟨_,List.getElem?_eq_getElem hi,t.L.th.nd i n _ hn (List.getElem?_eq_getElem hi)⟩
theorem slot_go {attr : Str} {k : Nat} {v : V} {w : Value} {Q X : Value → Shared → Prop} (Sl : SlotIs P.C.K 34 attr k) (hT : E "" = some (.tr T fin)) (hn : T.T[i]? = some n) (hv : slotV n i k = some v) (ok : FOk P f) (S : St P f z E s) (r : VR P.C s.heap z (.nd i) w) (q : ∀ w s',Kp P.C.lo s s' → VR P.C s'.heap z v w → Q w s') : wpAny P.C.M f.A (getAttr w attr true) Q X s := by
 have t := (S.er _ _ hT).tree
 obtain ⟨a,ha,⟨ox,O⟩,dc,_⟩ := t.nd hn
 obtain ⟨a',ha',rfl⟩ := r
 rw [ha] at ha'; cases ha'
 refine byG fun G9 k9 => ?_
 obtain ⟨w,e1,r1,h1⟩ := O.sl (C := P.C) ha hv
 obtain ⟨m,hns⟩ := S.ns
 refine k9 ?_
 clear k9 G9
 exact get_slot' S.on hns ok.lo ⟨O.at',O.cls,by unfold notCls; rw [O.data],by rw [O.dict]; exact dc⟩ Sl e1 h1 (q w _ Kp.tok (r1.kp (lo := P.C.lo) Kp.tok))
theorem r_slot {e : Expr} {attr : Str} {pos : Pos} {k : Nat} {v : V} (Sl : SlotIs P.C.K 34 attr k) (hT : E "" = some (.tr T fin)) (he : Ex P E e (.nd i)) (hn : T.T[i]? = some n) (hv : slotV n i k = some v)
  (hh : ∀ env,eval (.Attribute e attr pos) env = (do
   let o ← eval e env
   standAt pos.atName
   let r ← holding [o] (getAttr o attr true)
   letTemporaryGo e o r
   pure r) := by intro _; with_unfolding_all rfl) : Ex P E (.Attribute e attr pos) v := fun f z s ok S Q X q =>
 Attribute_any_ (he f z s ok S _ _ fun w s1 k1 r => slot_go Sl hT hn hv ok (S.kp k1) r fun w s2 k2 r2 => q w s2 (k1.trans k2) r2) (hh f.env)
noncomputable def headV (T : TS) (fin : Bool) (attr : Str) : Option V :=
 if attr = ("_zero_state" : Str) then some (.nd 0)
 else if attr = ("_counter" : Str) then some (.dat (.int T.cn))
 else if attr = ("_finalized" : Str) then some (.dat (.bool fin))
 else if attr = ("_case_insensitive" : Str) then some (.dat (.bool false))
 else none
theorem r_head {e : Expr} {attr : Str} {pos : Pos} {v : V} (At : AttrIs P.C.K 125 attr) (hT : E "" = some (.tr T fin)) (he : Ex P E e .kt) (hv : headV T fin attr = some v)
  (hh : ∀ env,eval (.Attribute e attr pos) env = (do
   let o ← eval e env
   standAt pos.atName
   let r ← holding [o] (getAttr o attr true)
   letTemporaryGo e o r
   pure r) := by intro _; with_unfolding_all rfl) : Ex P E (.Attribute e attr pos) v := fun f z s ok S Q X q =>
 Attribute_any_ (he f z s ok S _ _ fun w s1 k1 r => by
  have S1 := S.kp k1
  have t := (S1.er _ _ hT).tree
  have r : w = .ref z.kt := r
  subst r
  refine byG fun G9 k9 => ?_
  obtain ⟨az,haz,tz,⟨o,eo,c1,c2,c3⟩,es,m,ed,as,le,g1,g2,g3,g4,_⟩ := t.L.z
  obtain ⟨mm,hns⟩ := S1.ns
  refine k9 ?_
  clear k9 G9
  have go : ∀ w,getL attr es = some (some w) → VR P.C s1.heap z v w → handedIn w = true → wpAny P.C.M f.A (getAttr (.ref z.kt) attr true) Q X s1 := fun w g r h =>
   get_attr' S1.on hns ok.lo ⟨eo,c1,by unfold notCls; rw [c3],by rw [c2]; exact ed⟩ At g h (q w _ (k1.trans Kp.tok) (r.kp (lo := P.C.lo) Kp.tok))
  unfold headV at hv
  split at hv
  ·rename_i e; subst e; obtain rfl := Option.some.inj hv; exact go _ g1 ⟨az,haz,rfl⟩ rfl
  split at hv
  ·rename_i e; subst e; obtain rfl := Option.some.inj hv; exact go _ g2 rd_int rfl
  split at hv
  ·rename_i e; subst e; obtain rfl := Option.some.inj hv; exact go _ g3 rd_bool rfl
  split at hv
  ·rename_i e; subst e; obtain rfl := Option.some.inj hv; exact go _ g4 rd_bool rfl
  ·cases hv) (hh f.env)
inductive IsV : V → V → Bool → Prop
 | nd (i j : Nat) : IsV (.nd i) (.nd j) (decide (i = j))
 | nn (i : Nat) : IsV (.nd i) (.dat .none) false
 | no : IsV (.dat .none) (.dat .none) true
theorem isV_ref (o : Option Nat) : IsV (refN o) (.dat .none) o.isNone := by cases o; exact .no; exact .nn _
theorem isV_op {a b : V} {va vb : Value} {r : Bool} {Q X : Value → Shared → Prop} (t : TrW P f z s.heap T fin) (hr : IsV a b r) (ha : VR P.C s.heap z a va) (hb : VR P.C s.heap z b vb) :
  (Q (.bool r) s → wpAny P.C.M f.A (compareOp .Is va vb) Q X s) ∧ (Q (.bool !r) s → wpAny P.C.M f.A (compareOp .IsNot va vb) Q X s) := by
 cases hr with
 | nd i j =>
  obtain ⟨x,hx,rfl⟩ := ha
  obtain ⟨y,hy,rfl⟩ := hb
  by_cases hij : i = j
  ·subst hij
   rw [hx] at hy; obtain rfl := Option.some.inj hy
   rw [decide_eq_true rfl]
   exact ⟨fun q => wpAny_is_ref_self q,fun q => wpAny_isNot_ref_self q⟩
  ·rw [decide_eq_false hij]
   have hi : i < T.T.length := by rw [← t.L.th.len]; exact (List.getElem?_eq_some_iff.mp hx).1
   have hj : j < T.T.length := by rw [← t.L.th.len]; exact (List.getElem?_eq_some_iff.mp hy).1
   refine byG fun G9 k9 => ?_
   obtain ⟨⟨ox,O⟩,_⟩ := t.L.th.nd i _ x (List.getElem?_eq_getElem hi) hx
   obtain ⟨⟨oy,O'⟩,_⟩ := t.L.th.nd j _ y (List.getElem?_eq_getElem hj) hy
   refine k9 ?_
   clear k9 G9
   have hne := ((adAll_at t.L.th.dis hx hy).1 hij).1
   exact ⟨fun q => wpAny_is_ref_other hne O.at' O'.at' (by rw [O.cls]; nofun) q,fun q => wpAny_isNot_ref_other hne O.at' O'.at' (by rw [O.cls]; nofun) q⟩
 | nn i =>
  obtain ⟨x,hx,rfl⟩ := ha
  rw [Rd.none_inv hb]
  exact ⟨fun q => wpAny_is_other rfl (by simp) q,fun q => wpAny_isNot_other rfl (by simp) q⟩
 | no =>
  rw [Rd.none_inv ha,Rd.none_inv hb]
  exact ⟨fun q => wpAny_is_self rfl q,fun q => wpAny_isNot_self rfl q⟩
theorem Ex.two {l r : Expr} {a b : V} (hl : Ex P E l a) (hr : Ex P E r b) (ok : FOk P f) (S : St P f z E s) {K : Value → Value → Shared → Prop} {X : Value → Shared → Prop}
  (h : ∀ va vb s',Kp P.C.lo s s' → VR P.C s'.heap z a va → VR P.C s'.heap z b vb → K va vb s') : wpAny P.C.M f.A (eval l f.env) (fun va s₁ => wpAny P.C.M f.A (eval r f.env) (fun vb s₂ => K va vb s₂) X s₁) X s :=
 hl f z s ok S _ _ fun va s1 k1 ra => hr f z s1 ok (S.kp k1) _ _ fun vb s2 k2 rb => h va vb s2 (k1.trans k2) (ra.kp k2) rb
theorem t_is {l r : Expr} {p : Pos} {a b : V} {c : Bool} (hT : E "" = some (.tr T fin)) (hl : Ex P E l a) (hr : Ex P E r b) (hc : IsV a b c) (hs : noSet r = true) : Xt P E (.Compare l [.Is] [r] p) c := fun f z s ok S Q X q =>
 wpAny_isTrue_Compare1 (hl.two hr ok S fun va vb s' k ra rb => (isV_op ((S.kp k).er _ _ hT).tree hc ra rb).1 (wpAny_truthy_bool (q s' k))) (noSet_marks hs)
theorem t_isNot {l r : Expr} {p : Pos} {a b : V} {c : Bool} (hT : E "" = some (.tr T fin)) (hl : Ex P E l a) (hr : Ex P E r b) (hc : IsV a b c) (hs : noSet r = true) : Xt P E (.Compare l [.IsNot] [r] p) (!c) := fun f z s ok S Q X q =>
 wpAny_isTrue_Compare1 (hl.two hr ok S fun va vb s' k ra rb => (isV_op ((S.kp k).er _ _ hT).tree hc ra rb).2 (wpAny_truthy_bool (q s' k))) (noSet_marks hs)
theorem not_sys {C : Cx} {b : Addr} (hb : C.lo ≤ b) : (b == sysModules) = false := by
 obtain ⟨o,_,_,e,_⟩ := C.g
 refine beq_eq_false_iff_ne.mpr fun q => ?_
 rw [q] at hb
 exact Nat.lt_irrefl _ (Nat.lt_of_lt_of_le (Nat.lt_trans (by decide : sysModules < mainGlobals) (Heap.lt_size e)) hb)
theorem tab_some {ad : List Ad} {tr : List (Int × Nat)} {kvs : List (Int × Value)} (al : All2 (TabR ad) tr kvs) : (valueAt kvs c).isSome = (lookI c tr).isSome := by
 obtain ⟨h1,h2⟩ := tab_value (c := c) al
 cases hl : lookI c tr with
 | none => rw [h2 hl]; rfl
 | some j => obtain ⟨a,_,e⟩ := h1 j hl; rw [e]; rfl
theorem TrW.tab (t : TrW P f z s.heap T fin) (hn : T.T[i]? = some n) {w : Value} (r : VR P.C s.heap z (.tab i) w) : ∃ a kvs,w = .ref a.tab ∧ z.ad[i]? = some a ∧ s.heap.DictOf (intKind P.C.prog P.C.w) a.tab kvs ∧ All2 (TabR z.ad) n.tr kvs ∧ (a.tab == sysModules) = false := by
 refine byG fun G9 k9 => ?_
 obtain ⟨a,ha,rfl⟩ := r
 obtain ⟨a',ha',_,_,kvs,hd,al⟩ := t.nd hn
 refine k9 ?_
 clear k9 G9
 rw [ha] at ha'; cases ha'
 exact ⟨a,kvs,rfl,ha,hd,al,not_sys (t.L.th.lo _ (mem_adAll ha).2.2)⟩
theorem t_in {l r : Expr} {p : Pos} (hT : E "" = some (.tr T fin)) (hl : Ex P E l (.dat (.int c))) (hr : Ex P E r (.tab i)) (hn : T.T[i]? = some n) (hs : noSet r = true) : Xt P E (.Compare l [.In] [r] p) (lookI c n.tr).isSome := fun f z s ok S Q X q =>
 wpAny_isTrue_Compare1 (hl.two hr ok S fun va vb s' k ra rb => by
  obtain ⟨t,rfl⟩ := Rd.int_inv ra
  obtain ⟨a,kvs,rfl,_,hd,al,hsys⟩ := ((S.kp k).er _ _ hT).tree.tab hn rb
  exact wpAny_in_of intKey hsys hd.mapOf (wpAny_truthy_bool (by rw [tab_some al]; exact q _ (k.trans (Kp.of_keep fun _ _ e => e)))) ) (noSet_marks hs)
theorem t_notIn {l r : Expr} {p : Pos} (hT : E "" = some (.tr T fin)) (hl : Ex P E l (.dat (.int c))) (hr : Ex P E r (.tab i)) (hn : T.T[i]? = some n) (hs : noSet r = true) : Xt P E (.Compare l [.NotIn] [r] p) (!(lookI c n.tr).isSome) := fun f z s ok S Q X q =>
 wpAny_isTrue_Compare1 (hl.two hr ok S fun va vb s' k ra rb => by
  obtain ⟨t,rfl⟩ := Rd.int_inv ra
  obtain ⟨a,kvs,rfl,_,hd,al,hsys⟩ := ((S.kp k).er _ _ hT).tree.tab hn rb
  exact wpAny_notIn_of intKey hsys hd.mapOf (wpAny_truthy_bool (by rw [tab_some al]; exact q _ (k.trans (Kp.of_keep fun _ _ e => e)))) ) (noSet_marks hs)
theorem r_sub {e1 e2 : Expr} {pos : Pos} (hT : E "" = some (.tr T fin)) (h1 : Ex P E e1 (.tab i)) (h2 : Ex P E e2 (.dat (.int c))) (hn : T.T[i]? = some n) (hl : lookI c n.tr = some j) (hs : notSlice e2 = true) : Ex P E (.Subscript e1 e2 pos) (.nd j) := fun f z s ok S Q X q =>
 Subscript_ (h1.two h2 ok S fun vo vi s' k ro ri => by
  refine byG fun G9 k9 => ?_
  obtain ⟨t,rfl⟩ := Rd.int_inv ri
  obtain ⟨a,kvs,rfl,_,hd,al,hsys⟩ := ((S.kp k).er _ _ hT).tree.tab hn ro
  obtain ⟨b,hb,hv⟩ := (tab_value (c := c) al).1 j hl
  obtain ⟨o0,_,_,e0,xd0,_⟩ := id hd
  refine k9 ?_
  clear k9 G9
  exact tail_any (T := "dict") (id := "dict.__getitem__") (ops := [_,_]) ⟨o0,e0,xd0.1⟩ rfl (wpAny_getItem_of intKey hd.mapOf hv (q _ _ (k.trans (Kp.of_keep fun _ _ e => e)) ⟨b,hb,rfl⟩)) (subscripted_plain hs _ _))
end
end
section
section
variable {P : Pr} {f : Fx} {z z' : Lc} {E : StE} {s s' : Shared} {T T' : TS} {fin fin' : Bool} {i j : Nat} {n n' : PNd} {c : Int}
theorem St.treeW {W : Addr → Prop} (S : St P f z E s) (hg : P.kd.rw = true) (hT : E "" = some (.tr T fin)) (md : Md P.C.lo W s s') (hW : ∀ b,W b → PlT z.kt z.dx z.ad b)
  (nw : ∀ b,z'.lv b → z.lv b ∨ (s.heap.get? b = none ∧ f.s₀.heap.get? b = none ∧ ∃ o,s'.heap.get? b = some o ∧ ∀ vs,o.data ≠ .fields vs)) (ol : ∀ b,z.lv b → z'.lv b) (hk : z'.kt = z.kt) (hd : z'.dx = z.dx) (had : ∀ (i : Nat) a,z.ad[i]? = some a → z'.ad[i]? = some a) (hp : z'.pl = z.pl)
  (L' : Live P.C s'.heap z'.kt z'.dx T' z'.ad fin') (ob : ∀ (j : Nat) a,z'.ad[j]? = some a → s'.heap.get? a.tab = T'.ob[j]?) (hpl : ∀ b,PlT z'.kt z'.dx z'.ad b → PlT z.kt z.dx z.ad b ∨ (z'.lv b ∧ s.heap.get? b = none ∧ f.s₀.heap.get? b = none)) :
  St P f z' (setE E "" (.tr T' fin')) s' ∧ Stable s.heap z.lv s'.heap z'.lv := by
 have t := (S.er _ _ hT).tree
 have hW' : ∀ b,W b → Wr P f z s b := fun b w => by
  obtain ⟨lb,wb⟩ := t.wr hg b (hW b w)
  refine ⟨wb,fun o e => ?_⟩
  obtain ⟨o',e',q⟩ := t.L.ob (hW b w)
  rw [e] at e'; cases e'
  exact ⟨q.s.nc,fun _ _ c => (q.s.nf c).elim,fun r => t.nl (r ▸ hW b w),.inl lb,fun _ => q.q⟩
 have st : Stable s.heap z.lv s'.heap z'.lv := Wr.stable md hW' fun b l => (nw b l).imp id fun q => q.1
 have nl : ∀ b,PlT z'.kt z'.dx z'.ad b → b ≠ f.env.locals := fun b p q => (hpl b p).elim (fun p => t.nl (q ▸ p)) fun ⟨_,h,_⟩ => by
  obtain ⟨m,o,_,_,e,_⟩ := S.ns
  rw [← q,h] at e; cases e
 refine ⟨S.move md hW' ⟨st,fun b l => (nw b l).imp id fun q => q.2,ol,hk,hd,had⟩ (fun x e h => ?_) (fun x y e e' h1 h2 l1 l2 q => ?_),st⟩
 ·unfold setE at h
  by_cases hx : x = ("" : Str)
  ·rw [if_pos hx] at h; obtain rfl := Option.some.inj h
   exact .inr (.tr hx ⟨L',ob,fun p => nl _ p rfl,fun _ b p => (hpl b p).elim (fun p => ⟨ol b (t.wr hg b p).1,(t.wr hg b p).2⟩) fun ⟨l,h1,h2⟩ => ⟨l,On_none S.on h1,.inr h2⟩,fun h b p => (hpl b p).elim (t.nc h b) fun ⟨_,h1,_⟩ l => let ⟨_,e,_⟩ := S.lt b (S.lu b l); none_some (h1.symm.trans e),fun h => by rw [h] at hg; exact no_tf hg⟩)
  ·rw [if_neg hx] at h
   refine .inl ⟨h,by rw [hp],fun l w => ?_,fun T2 f2 q => ?_⟩
   ·obtain ⟨_,_,r3,o,e1,r⟩ := (S.er x e h).live l
    exact t.ne r3 r e1 (hW _ w)
   ·exact (hx (S.er x _ (q ▸ h)).key).elim
 ·unfold setE at h1 h2
  split at h1
  ·cases h1; exact l1.elim
  ·split at h2
   ·cases h2; exact l2.elim
   ·exact S.ij x y e e' h1 h2 l1 l2 (by rw [hp] at q; exact q)
theorem St.treeS {W : Addr → Prop} (S : St P f z E s) (hg : P.kd.rw = true) (hT : E "" = some (.tr T fin)) (md : Md P.C.lo W s s') (hW : ∀ b,W b → PlT z.kt z.dx z.ad b)
  (L' : Live P.C s'.heap z.kt z.dx T' z.ad fin') (ob : ∀ (j : Nat) a,z.ad[j]? = some a → s'.heap.get? a.tab = T'.ob[j]?) : St P f z (setE E "" (.tr T' fin')) s' :=
 (S.treeW hg hT md hW (fun _ => .inl) (fun _ => id) rfl rfl (fun _ _ => id) rfl L' ob fun _ => .inl).1
theorem rds_T {h : Heap} {lv lv' : Addr → Prop} : ∀ {vs : List Value} {ds : List PyData},Rds h lv vs ds → (∀ v d,d ∈ ds → Rd h lv v d → Rd h lv' v d) → Rds h lv' vs ds
 | [],_,r,_ => by rw [r.nil_inv]; exact .nil
 | v :: vs,_,r,k => by obtain ⟨d,ds,rfl,r1,r2⟩ := r.cons_inv; exact .cons (k v d List.mem_cons_self r1) (rds_T r2 fun v d m => k v d (List.mem_cons_of_mem _ m))
theorem rd_intT {h : Heap} {lv lv' : Addr → Prop} {v : Value} {i : Int} (r : Rd h lv v (.int i)) : Rd h lv' v (.int i) := by obtain ⟨t,rfl⟩ := r.int_inv; exact rd_int
theorem rd_tupT {h : Heap} {lv lv' : Addr → Prop} {v : Value} {ds : List PyData} (r : Rd h lv v (.tuple ds)) (k : ∀ v d,d ∈ ds → Rd h lv v d → Rd h lv' v d) : Rd h lv' v (.tuple ds) := by
 obtain ⟨a,vs,rfl,t,r⟩ := r.tuple_inv; exact .tuple t (rds_T r k)
theorem rd_wordT {h : Heap} {lv lv' : Addr → Prop} {v : Value} {k : List Int} (r : Rd h lv v (wordD k)) : Rd h lv' v (wordD k) := rd_tupT r fun v d m r => by
 obtain ⟨i,_,rfl⟩ := List.mem_map.mp m; exact rd_intT r
theorem rd_outsT {h : Heap} {lv lv' : Addr → Prop} {v : Value} {l : List (List Int)} (r : Rd h lv v (outsD l)) : Rd h lv' v (outsD l) := rd_tupT r fun v d m r => by
 obtain ⟨k,_,rfl⟩ := List.mem_map.mp m
 refine rd_tupT r fun v d m r => ?_
 simp only [List.mem_cons,List.not_mem_nil,or_false] at m
 rcases m with rfl | rfl
 ·exact rd_wordT r
 ·exact rd_intT r
inductive Put (n : PNd) : Nat → V → PNd → Prop
 | lss (j : Nat) : Put n 1 (.nd j) { n with lss := some j }
 | kw (k : List Int) : Put n 2 (.dat (wordD k)) { n with kw := some k }
 | outs (l : List (List Int)) : Put n 3 (.dat (outsD l)) { n with outs := some l }
 | suc (b : Bool) : Put n 5 (.dat (.bool b)) { n with suc := b }
theorem ObAt.put {h h' : Heap} {a : Ad} {ox : Obj} {k : Nat} {v : V} {w : Value} (p : Put n k v n') (O : ObAt h z.ad i n a ox) (ht : TupKeep h h') (e : h'.get? a.adr = some (setSl ox k w)) (r : VR P.C h' z v w) : n'.tr = n.tr ∧ ObAt h' z.ad i n' a (setSl ox k w) := by
 have g : ∀ m,m ≠ k → Mine.sl (setSl ox k w) m = Mine.sl ox m := fun m hm => by rw [sl_setSl,if_neg hm]
 have gk : Mine.sl (setSl ox k w) k = some w := by rw [sl_setSl,if_pos rfl]
 have k2 : ∃ v,Mine.sl ox 2 = some v ∧ kwV h' n.kw v := O.s2.imp fun v q => ⟨q.1,q.2.keep ht⟩
 have k3 := O.s3.keep ht
 cases p with
 | lss j => exact ⟨rfl,e,O.cls,O.dict,O.data,by rw [g 0 (by decide)]; exact O.s0,⟨w,gk,r⟩,by rw [g 2 (by decide)]; exact k2,by rw [g 3 (by decide)]; exact k3,by rw [g 4 (by decide)]; exact O.s4,by rw [g 5 (by decide)]; exact O.s5,by rw [g 6 (by decide)]; exact O.s6,by rw [g 7 (by decide)]; exact O.s7⟩
 | kw q => exact ⟨rfl,e,O.cls,O.dict,O.data,by rw [g 0 (by decide)]; exact O.s0,by rw [g 1 (by decide)]; exact O.s1,⟨w,gk,rd_wordT r⟩,by rw [g 3 (by decide)]; exact k3,by rw [g 4 (by decide)]; exact O.s4,by rw [g 5 (by decide)]; exact O.s5,by rw [g 6 (by decide)]; exact O.s6,by rw [g 7 (by decide)]; exact O.s7⟩
 | outs l => exact ⟨rfl,e,O.cls,O.dict,O.data,by rw [g 0 (by decide)]; exact O.s0,by rw [g 1 (by decide)]; exact O.s1,by rw [g 2 (by decide)]; exact k2,⟨w,gk,rd_outsT r⟩,by rw [g 4 (by decide)]; exact O.s4,by rw [g 5 (by decide)]; exact O.s5,by rw [g 6 (by decide)]; exact O.s6,by rw [g 7 (by decide)]; exact O.s7⟩
 | suc b =>
  have r : Rd h' z.lv w (.bool b) := r
  have r := r.bool_inv
  subst r
  exact ⟨rfl,e,O.cls,O.dict,O.data,by rw [g 0 (by decide)]; exact O.s0,by rw [g 1 (by decide)]; exact O.s1,by rw [g 2 (by decide)]; exact k2,by rw [g 3 (by decide)]; exact k3,by rw [g 4 (by decide)]; exact O.s4,gk,by rw [g 6 (by decide)]; exact O.s6,by rw [g 7 (by decide)]; exact O.s7⟩
theorem WS_slot {e1 e2 : Expr} {attr : Str} {p sp : Pos} {k : Nat} {v : V} (Sl : SlotIs P.C.K 34 attr k) (hg : P.kd.rw = true) (hT : E "" = some (.tr T fin)) (h1 : Ex P E e1 (.nd i)) (h2 : Ex P E e2 v) (hn : T.T[i]? = some n) (hp : Put n k v n') (hs : ∀ env,swapsWith e2 (some (.Attribute e1 attr p)) sp.line env = pure false := by intro _; rfl) :
  WS P E (.Assign [.Attribute e1 attr p] e2 sp) fun fl E' => fl = .next ∧ E' = setE E "" (.tr ⟨T.T.set i n',T.ob,T.cn⟩ fin) := fun f z s ok S X =>
 plainObj_wpAny_Assign_Attribute (h2 f z s ok S _ _ fun w s1 k1 r1 => h1 f z s1 ok (S.kp k1) _ _ fun w2 s2 k2 r2 => by
  have S2 := S.kp (k1.trans k2)
  have r1 := r1.kp k2
  have t := (S2.er _ _ hT).tree
  refine byG fun G9 k9 => ?_
  obtain ⟨a,ha,⟨ox,O⟩,dc,tb⟩ := t.nd hn
  obtain ⟨a',ha',rfl⟩ := r2
  refine k9 ?_
  clear k9 G9
  rw [ha] at ha'; cases ha'
  refine byG fun G9 k9 => ?_
  obtain ⟨m1,m2,m3⟩ := mem_adAll ha
  obtain ⟨_,x1,x2,x3⟩ := adAll_at t.L.th.dis ha ha
  obtain ⟨m,hns⟩ := S2.ns
  refine k9 ?_
  clear k9 G9
  refine set_slot2 S2.on hns ok.lo dc (t.L.th.lo _ m2) (fun q => t.nl (q ▸ .inl m2)) (Ne.symm x1) ⟨O.at',O.cls,by unfold notCls; rw [O.data],by rw [O.dict]; exact dc⟩ (Heap.get?_none_of_le (t.L.th.lo _ m1)) (fun q => t.nl (q ▸ .inl m1)) Sl O.data fun h' tk hx hr => ?_
  have hf : ∃ o',h'.get? a.adr = some o' ∧ ∀ vs,o'.data ≠ .fields vs := ⟨_,hx,by unfold setSl; rw [O.data]; nofun⟩
  have md : Md P.C.lo (· = a.adr) s2 { s2 with heap := h',toks := tk } := rest_md hr O.at' ((fun q => Value.noConfusion (O.cls.symm.trans q))) hf
  have htup : ∀ o vs n,s2.heap.get? a.adr = some o → o.cls = .type "tuple" → o.data ≠ .seq vs n := fun o vs n e _ d => by rw [O.at'] at e; obtain rfl := Option.some.inj e; rw [O.data] at d; cases d
  have ht : TupKeep s2.heap h' := fun b o vs n e c d => hr b o (by rintro rfl; exact htup o vs n e c d) e
  have st : Stable s2.heap z.lv h' z.lv := ⟨fun b o e nl _ => hr b o (fun q => nl (q ▸ (t.wr hg _ (.inl m1)).1)) e,ht,fun _ _ _ _ l => l⟩
  obtain ⟨htr,O'⟩ := O.put (P := P) hp ht hx (r1.gr st rfl fun _ _ e => e)
  refine ⟨.next,_,z,S2.treeS hg hT md (fun b q => q ▸ .inl m1) ⟨t.L.th.setOb ha hr O' (fun q hq => by rw [hn] at hq; obtain rfl := Option.some.inj hq; exact htr) htup,?_,t.L.hd,t.L.lo⟩ fun j b hb => ?_,rfl,rfl,rfl⟩
  ·obtain ⟨az,haz,tz,K⟩ := t.L.z
   exact ⟨az,haz,tz,K.keep (fun o e => hr _ o (fun q => t.L.hd.1 (q ▸ m1)) e) fun o e => hr _ o (fun q => t.L.hd.2.1 (q ▸ m1)) e⟩
  ·obtain ⟨o,e,_⟩ := t.L.ob (.inl (mem_adAll hb).2.2)
   rw [← t.ob j b hb,e]
   exact hr _ o (Ne.symm (adAll_at t.L.th.dis ha hb).2.2.1) e) (hs f.env)
end
end
section
theorem lookI_none_ne {ad : List Ad} {c : Int} {tr : List (Int × Nat)} {kvs : List (Int × Value)} (x : All2 (TabR ad) tr kvs) : lookI c tr = none → ∀ p ∈ kvs,p.1 ≠ c := by
 induction x with
 | nil => exact fun _ p hp => absurd hp List.not_mem_nil
 | @cons a q _ _ r _ ih =>
  intro hl p hp
  have hl : (if a.1 = c then some a.2 else lookI c _) = none := hl
  by_cases hd : a.1 = c
  ·rw [if_pos hd] at hl; cases hl
  ·rw [if_neg hd] at hl
   rcases List.mem_cons.mp hp with rfl | hp
   ·rw [r.1]; exact hd
   ·exact ih hl p hp
theorem putL_len {name : Str} {hsh : Int} {t : Tok} {v : Value} : ∀ es : List DictEntry,(putL name hsh (.str name t) v es).length ≤ es.length + 1
 | [] => by simp [putL]
 | e :: r => by unfold putL; split <;> simp_all [putL_len r]
theorem putL_len2 {name : Str} {hsh : Int} {t : Tok} {v : Value} : ∀ es : List DictEntry,(es.find? (·.key.isStr name)).isSome = true → (putL name hsh (.str name t) v es).length ≤ es.length
 | [],h => by simp at h
 | e :: r,h => by
  unfold putL
  split
  ·simp
  ·rename_i he
   simp only [List.find?_cons,he] at h
   simpa using putL_len2 r h
section
variable {P : Pr} {f : Fx} {z z' : Lc} {E : StE} {s s' : Shared} {T T' : TS} {fin fin' : Bool} {i j : Nat} {n n' : PNd} {c : Int}
theorem WS_tab {e1 e2 e3 : Expr} {p sp : Pos} (hg : P.kd.rw = true) (hT : E "" = some (.tr T fin)) (h1 : Ex P E e1 (.tab i)) (h2 : Ex P E e2 (.dat (.int c))) (h3 : Ex P E e3 (.nd j)) (hn : T.T[i]? = some n) (hl : lookI c n.tr = none) (hz : n.tr.length ≤ 1000) (hs : ∀ env,swapsWith e3 (some (.Subscript e1 e2 p)) sp.line env = pure false := by intro _; rfl) :
  WS P E (.Assign [.Subscript e1 e2 p] e3 sp) fun fl E' => fl = .next ∧ ∃ o,E' = setE E "" (.tr ⟨T.T.set i { n with tr := n.tr ++ [(c,j)] },T.ob.set i o,T.cn⟩ fin) := fun f z s ok S X =>
 wpAny_Assign_Subscript (h3 f z s ok S _ _ fun w s1 k1 r1 => h1.two h2 ok (S.kp k1) fun w2 w3 s2 k2 r2 r3 => by
  have S2 := S.kp (k1.trans k2)
  have t := (S2.er _ _ hT).tree
  refine byG fun G9 k9 => ?_
  obtain ⟨b,hb,rfl⟩ := r1
  obtain ⟨tk,rfl⟩ := Rd.int_inv r3
  obtain ⟨a,kvs,rfl,ha,hd,al,_⟩ := t.tab hn r2
  obtain ⟨o6,es6,ep6,e6,xd6,d6,_⟩ := id hd
  obtain ⟨m1,m2,m3⟩ := mem_adAll ha
  refine k9 ?_
  clear k9 G9
  refine wpAny_setItem_pairs (knd := intKind P.C.prog P.C.w) intKey hd (fun h7 hd7 hs7 => ?_) (by rw [← al.length]; simp [sizeLine]; omega)
  have hst : stored kvs c (.ref b.adr) = kvs ++ [(c,.ref b.adr)] := by
   unfold stored
   rw [if_neg]
   simp only [List.any_eq_true,not_exists,not_and,decide_eq_true_eq]
   exact lookI_none_ne al hl
  rw [hst] at hd7
  have r7 : Rest1 a.tab s2.heap h7 := fun b o hb e => (hs7.2 b hb).trans e
  have htup : ∀ o vs k,s2.heap.get? a.tab = some o → o.cls = .type "tuple" → o.data ≠ .seq vs k := fun o vs k e _ d => by
   rw [e6] at e; obtain rfl := Option.some.inj e; rw [d6] at d; cases d
  refine byG fun G9 k9 => ?_
  obtain ⟨o7,es7,ep7,e7,xd7,d7,q7⟩ := hd7
  refine k9 ?_
  clear k9 G9
  have hf : ∃ o',h7.get? a.tab = some o' ∧ ∀ vs,o'.data ≠ .fields vs := ⟨o7,e7,(fun _ q => Data.noConfusion (d7.symm.trans q))⟩
  have hlt : i < T.ob.length := by
   have := t.ob i a ha
   rw [e6] at this
   exact (List.getElem?_eq_some_iff.mp this.symm).1
  refine ⟨.next,_,z,S2.treeS (T' := ⟨T.T.set i { n with tr := n.tr ++ [(c,j)] },T.ob.set i o7,T.cn⟩) hg hT (rest_md (tk := s2.toks + 1) r7 e6 (by rw [xd6.1]; nofun) hf) (fun b q => q ▸ .inl m3) ⟨t.L.th.setTab hn ha r7 ⟨_,⟨o7,es7,ep7,e7,xd7,d7,q7⟩,al.append (.cons ⟨rfl,b,hb,rfl⟩ .nil)⟩ htup,?_,t.L.hd,t.L.lo⟩ fun j' b' hb' => ?_,rfl,rfl,o7,rfl⟩
  ·refine byG fun G9 k9 => ?_
   obtain ⟨az,haz,tz,K⟩ := t.L.z
   refine k9 ?_
   clear k9 G9
   exact ⟨az,haz,tz,K.keep (fun o e => r7 _ o (fun q => t.L.hd.1 (q ▸ m3)) e) fun o e => r7 _ o (fun q => t.L.hd.2.1 (q ▸ m3)) e⟩
  ·by_cases hij : i = j'
   ·subst hij
    rw [ha] at hb'; cases hb'
    exact e7.trans (List.getElem?_set_self hlt).symm
   ·exact ((hs7.2 _ (Ne.symm ((adAll_at t.L.th.dis ha hb').1 hij).2.2)).trans (t.ob j' b' hb')).trans (List.getElem?_set_ne hij).symm) (hs f.env)
inductive PutH (T : TS) (fin : Bool) : Str → V → TS → Bool → Prop
 | cn (m : Nat) : PutH T fin "_counter" (.dat (.int m)) ⟨T.T,T.ob,m⟩ fin
 | fin (b : Bool) : PutH T fin "_finalized" (.dat (.bool b)) T b
theorem St.putH {attr : Str} {v : V} {w : Value} {Q : Unit → Shared → Prop} {X : Value → Shared → Prop} (At : AttrIs P.C.K 125 attr) (ok : FOk P f) (S : St P f z E s) (hg : P.kd.rw = true) (hT : E "" = some (.tr T fin)) (hp : PutH T fin attr v T' fin') (r : VR P.C s.heap z v w) (q : ∀ s',St P f z (setE E "" (.tr T' fin')) s' → Q () s') : wpAny P.C.M f.A (setAttr (.ref z.kt) attr w) Q X s := by
 have t := (S.er _ _ hT).tree
 refine byG fun G9 k9 => ?_
 obtain ⟨az,haz,tz,⟨o,eo,c1,c2,c3⟩,es,m,ed,as,le,gz,gc,gf,gi,gn⟩ := t.L.z
 obtain ⟨mm,hns⟩ := S.ns
 obtain ⟨m1,m2,m3⟩ := mem_adAll haz
 have h0 : 0 < T.T.length := by rw [← t.L.th.len]; exact (List.getElem?_eq_some_iff.mp haz).1
 obtain ⟨_,dc0,_⟩ := t.L.th.nd 0 _ az (List.getElem?_eq_getElem h0) haz
 refine k9 ?_
 clear k9 G9
 have hgl : ∃ x,getL attr es = some (some x) := by cases hp; exact ⟨_,gc⟩; exact ⟨_,gf⟩
 have hfs : (es.find? (·.key.isStr attr)).isSome = true := by
  obtain ⟨x,hx⟩ := hgl
  unfold getL at hx
  cases hf : es.find? (·.key.isStr attr) with
  | some e => rfl
  | none => rw [hf,as.noRef] at hx; simp at hx
 refine set_attr2 S.on hns ok.lo dc0 (t.L.th.lo _ m2) (fun e => t.nl (by rw [← e]; exact .inl m2)) (fun e => t.L.hd.2.1 (by rw [← e]; exact m2)) ⟨eo,c1,by unfold notCls; rw [c3],by rw [c2]; exact ed⟩ c2 (Heap.get?_none_of_le t.L.lo.2) (fun e => t.nl (by rw [← e]; exact .inr (.inr rfl))) At (by obtain ⟨x,hx⟩ := hgl; rw [hx]; rfl) (by omega) fun h' tk tn hx hr => q _ ?_
 have g' : ∀ k,getL k (putL attr (PyData.keyHash P.C.w.params attr) (.str attr tn) w es) = if k = attr then some (some w) else getL k es := fun k => getL_put as k attr _ tn w
 have ht : TupKeep s.heap h' := fun b o vs n e c d => hr b o (by rintro rfl; rw [ed] at e; obtain rfl := Option.some.inj e; cases d) e
 have TH' : TH P.C h' T.T z.ad := t.L.th.keep (fun b hb o e => hr b o (by rintro rfl; exact t.L.hd.2.1 hb) e) ht
 have K : ∃ tz',KtAt h' z.kt z.dx (.ref az.adr) (.int T'.cn tz') (.bool fin') ∧ T'.T = T.T ∧ T'.ob = T.ob := by
  have nn : ∀ k : Str,k ∉ ktNames → getL k (putL attr (PyData.keyHash P.C.w.params attr) (.str attr tn) w es) = some none := fun k hk => by
   rw [g',if_neg (by rintro rfl; cases hp <;> exact hk (by decide))]; exact gn k hk
  have ek' := hr z.kt _ t.L.hd.2.2 eo
  cases hp with
  | cn m' =>
   obtain ⟨t',rfl⟩ := Rd.int_inv r
   exact ⟨t',⟨⟨o,ek',c1,c2,c3⟩,_,_,hx,as.put,Nat.le_trans (putL_len2 es hfs) le,(g' _).trans ((if_neg (by decide)).trans gz),(g' _).trans (if_pos rfl),(g' _).trans ((if_neg (by decide)).trans gf),(g' _).trans ((if_neg (by decide)).trans gi),nn⟩,rfl,rfl⟩
  | fin =>
   have r : Rd s.heap z.lv w (.bool fin') := r
   rw [r.bool_inv] at g' hx nn
   exact ⟨tz,⟨⟨o,ek',c1,c2,c3⟩,_,_,hx,as.put,Nat.le_trans (putL_len2 es hfs) le,(g' _).trans ((if_neg (by decide)).trans gz),(g' _).trans ((if_neg (by decide)).trans gc),(g' _).trans (if_pos rfl),(g' _).trans ((if_neg (by decide)).trans gi),nn⟩,rfl,rfl⟩
 obtain ⟨tz',K,e1,e2⟩ := K
 refine S.treeS hg hT (rest_md (tk := tk) hr ed (by simp) ⟨_,hx,(fun _ q => Data.noConfusion q)⟩) (fun b q => q ▸ .inr (.inr rfl)) ⟨e1 ▸ TH',⟨az,haz,tz',K⟩,t.L.hd,t.L.lo⟩ fun j a e => ?_
 obtain ⟨o',eo',_⟩ := t.L.ob (.inl (mem_adAll e).2.2)
 rw [e2,← t.ob j a e,eo']
 exact hr _ o' (fun q => t.L.hd.2.1 (q ▸ (mem_adAll e).2.2)) eo'
theorem WS_head {e1 e2 : Expr} {attr : Str} {p sp : Pos} {v : V} (At : AttrIs P.C.K 125 attr) (hg : P.kd.rw = true) (hT : E "" = some (.tr T fin)) (h1 : Ex P E e1 .kt) (h2 : Ex P E e2 v) (hp : PutH T fin attr v T' fin') (hs : ∀ env,swapsWith e2 (some (.Attribute e1 attr p)) sp.line env = pure false := by intro _; rfl) :
  WS P E (.Assign [.Attribute e1 attr p] e2 sp) fun fl E' => fl = .next ∧ E' = setE E "" (.tr T' fin') := fun f z s ok S X =>
 plainObj_wpAny_Assign_Attribute (h2 f z s ok S _ _ fun w s1 k1 r1 => h1 f z s1 ok (S.kp k1) _ _ fun w2 s2 k2 r2 => by
  have r2 : w2 = .ref z.kt := r2
  subst r2
  exact St.putH At ok (S.kp (k1.trans k2)) hg hT hp (r1.kp k2) fun s3 S3 => ⟨.next,_,z,S3,rfl,rfl,rfl⟩) (hs f.env)
theorem WS_count {e1 e2 : Expr} {p sp : Pos} {m : Nat} (At : AttrIs P.C.K 125 "_counter") (hg : P.kd.rw = true) (hT : E "" = some (.tr T fin)) (h1 : Ex P E e1 .kt) (h2 : Ex P E e2 (.dat (.int m))) :
  WS P E (.AugAssign (.Attribute e1 "_counter" p) .Add e2 sp) fun fl E' => fl = .next ∧ E' = setE E "" (.tr ⟨T.T,T.ob,T.cn + m⟩ fin) := fun f z s ok S X => by
 refine wpAny_AugAssign_AttributeAny (h1 f z s ok S _ _ fun w2 s1 k1 r1 => ?_)
 have r1 : w2 = .ref z.kt := r1
 subst r1
 have S1 := S.kp k1
 have t := (S1.er _ _ hT).tree
 refine byG fun G9 k9 => ?_
 obtain ⟨az,haz,tz,⟨o,eo,c1,c2,c3⟩,es,m',ed,as,le,gz,gc,gf,gi,gn⟩ := t.L.z
 obtain ⟨mm,hns⟩ := S1.ns
 refine k9 ?_
 clear k9 G9
 refine get_attr' S1.on hns ok.lo ⟨eo,c1,by unfold notCls; rw [c3],by rw [c2]; exact ed⟩ At gc rfl ?_
 have S2 := S1.kp (Kp.tok (tk := s1.toks + 1))
 refine h2 f z _ ok S2 _ _ fun w s3 k3 r3 => ?_
 obtain ⟨tk,rfl⟩ := Rd.int_inv r3
 refine AutoIntOps.iadd_0 ?_
 exact St.putH At ok ((S2.kp k3).kp Kp.tok) hg hT (PutH.cn (T.cn + m)) (show Rd _ _ _ (.int ((T.cn + m : Nat) : Int)) from rd_int) fun s4 S4 => ⟨.next,_,z,S4,rfl,rfl,rfl⟩
end
end
section
theorem castMem {l : List Nat} {j : Nat} : (∃ i ∈ l,(j : Int) = (i : Int)) ↔ j ∈ l :=
 ⟨fun ⟨i,hi,e⟩ => Int.ofNat.inj e ▸ hi,fun hj => ⟨j,hj,rfl⟩⟩
theorem set_more {C : Cx} {o : Obj} {l : List Nat} {j : Nat} (h : Obj.SetObjOf (intKind C.prog C.w) o (fun k' => decide (∃ j ∈ l,k' = (j : Int)) || decide (k' = (j : Int))) (if decide (∃ i ∈ l,(j : Int) = (i : Int)) then l.length else l.length + 1)) :
  SetIs C o (if j ∈ l then l else l ++ [j]) := by
 unfold SetIs
 have e1 : (∃ i ∈ l,(j : Int) = (i : Int)) ↔ j ∈ l := castMem
 by_cases hj : j ∈ l
 ·rw [if_pos hj]
  rw [if_pos (decide_eq_true (e1.mpr hj))] at h
  have : (fun k' : Int => decide (∃ j ∈ l,k' = (j : Int)) || decide (k' = (j : Int))) = fun k => decide (∃ j ∈ l,k = (j : Int)) := by
   funext k
   rw [← Bool.decide_or]
   exact decide_eq_decide.mpr ⟨fun q => q.elim id fun q => ⟨j,hj,q⟩,.inl⟩
  rw [this] at h; exact h
 ·rw [if_neg hj,List.length_append]
  rw [if_neg (by rw [decide_eq_true_eq]; exact fun q => hj (e1.mp q))] at h
  have : (fun k' : Int => decide (∃ j ∈ l,k' = (j : Int)) || decide (k' = (j : Int))) = fun k => decide (∃ i ∈ l ++ [j],k = (i : Int)) := by
   funext k
   rw [← Bool.decide_or]
   refine decide_eq_decide.mpr ⟨fun q => ?_,fun ⟨i,hi,e⟩ => ?_⟩
   ·rcases q with ⟨i,hi,e⟩ | e
    ·exact ⟨i,List.mem_append_left _ hi,e⟩
    ·exact ⟨j,List.mem_append_right _ List.mem_cons_self,e⟩
   ·rcases List.mem_append.mp hi with hi | hi
    ·exact .inl ⟨i,hi,e⟩
    ·rw [List.mem_singleton.mp hi] at e; exact .inr e
  rw [this] at h
  exact h
theorem mapSeq_pop {vs : List Value} {v : Value} {n : Nat} : Obj.mapSeq (fun xs => xs.eraseIdxIfInBounds ((vs ++ [v]).toArray.size - 1)) (lobj (vs ++ [v]) n) = lobj vs (n + 1) := by
 have h1 : (vs ++ [v]).toArray.eraseIdxIfInBounds ((vs ++ [v]).toArray.size - 1) = vs.toArray := by
  have h : (vs ++ [v]).toArray.size - 1 = vs.length := by simp
  rw [h]
  have hlt : vs.length < (vs ++ [v]).toArray.size := by simp
  unfold Array.eraseIdxIfInBounds
  rw [dif_pos hlt]
  apply Array.toList_inj.mp
  rw [Array.toList_eraseIdx]
  simp [List.eraseIdx_append_of_length_le]
 unfold lobj Obj.mapSeq
 dsimp only
 rw [h1]
 simp
theorem All2.snoc {α β : Type} {R : α → β → Prop} {as : List α} {a : α} {bs : List β} (h : All2 R (as ++ [a]) bs) : ∃ bs' b,bs = bs' ++ [b] ∧ All2 R as bs' ∧ R a b := by
 induction as generalizing bs with
 | nil => cases h with | cons r rs => cases rs; exact ⟨[],_,rfl,.nil,r⟩
 | cons x xs ih => cases h with | cons r rs => obtain ⟨bs',b,rfl,h1,h2⟩ := ih rs; exact ⟨_ :: bs',b,rfl,.cons r h1,h2⟩
section
variable {P : Pr} {f : Fx} {z z' : Lc} {E : StE} {s s' : Shared} {T T' : TS} {fin fin' : Bool} {i j : Nat} {n n' : PNd} {c : Int} {x : Str} {l : List Nat}
theorem WS_newN {e : Expr} {xp lp sp : Pos} (hx : isLC P.names x = true) (ho : okName x = true) (he : Ex P E e (.nd i)) (hs : noStar e = true) : WS P E (.Assign [.Name x xp] (.List [e] lp) sp) fun fl E' => fl = .next ∧ E' = setE E x (.nds [i]) := fun f z s ok S X =>
 wpAny_Assign_Name (List_ ((vs_cons he hs vs_nil).2 f z s _ ok S _ _ fun ws s1 k1 rs => by
  cases rs with | cons r rs =>
  cases rs
  have hn : s.heap.get? s1.heap.objs.size = none := by
   cases e : s.heap.get? s1.heap.objs.size with
   | none => rfl
   | some o => obtain ⟨o',e',_⟩ := k1.heap _ o e; rw [get_none_size] at e'; cases e'
  exact wpAny_newObj_type (S.born ok (k1.trans Kp.push') ((S.kp k1).size ok) hn (o := lobj [_] 0) (Heap.get?_push_size _ rfl) (e := .nds [i]) trivial hx ho ⟨_,0,rfl,.cons r .nil⟩ fun z' s2 S2 _ => ⟨.next,_,z',S2,rfl,rfl,rfl⟩) (by show 1 ≤ sizeLine; decide))) rfl
theorem WS_newSet {fp cp xp sp : Pos} (hx : isLC P.names x = true) (ho : okName x = true) (hg : isGl P.names "set" = true) : WS P E (.Assign [.Name x xp] (.Call (.Name "set" fp) [] [] cp) sp) fun fl E' => fl = .next ∧ E' = setE E x (.nats []) := fun f z s ok S X =>
 wpAny_Assign_Name (call_bn ok S hg rfl rfl (by decide) keep_type rfl (args_nil (env := f.env) ⟨S.on,call_set_0 fun led => S.born ok Kp.push' (S.size ok) (get_none_size _) (Heap.get?_push_size _ rfl) (e := .nats []) trivial hx ho (by
  have := setObjOf_fresh (knd := intKind P.C.prog P.C.w) led
  show SetIs _ _ _
  unfold SetIs
  simpa using this) fun z' s2 S2 _ => ⟨.next,_,z',S2,rfl,rfl,rfl⟩⟩)) rfl
theorem t_list {p : Pos} (h : E x = some (.nds l)) (hz : l.length < 2 ^ 20) : Xt P E (.Name x p) (!l.isEmpty) := fun f z s ok S Q X q =>
 isTrue_plain (live_name (e := .nds l) ok S h trivial fun o e ⟨vs,n,eo,al⟩ => wpAny_truthy_list (l := z.pl x) (items := vs.toArray) ⟨o,e,by rw [eo]; rfl,n,by rw [eo]; rfl⟩ (by have := al.length; simp [sizeLine]; omega) (by
  have e2 : (!vs.toArray.isEmpty) = !l.isEmpty := by cases al <;> rfl
  rw [e2]; exact q _ (Kp.of_keep fun _ _ e => e)))
theorem WS_pop {y : Str} {p xp ap cp sp : Pos} (h : E x = some (.nds (l ++ [i]))) (hxy : y ≠ x) (hz : l.length < 2 ^ 19) (hy : isLC P.names y = true) (ho : okName y = true) (hline : (ap.endLine == cp.line) = true) :
  WS P E (.Assign [.Name y p] (.Call (.Attribute (.Name x xp) "pop" ap) [] [] cp) sp) fun fl E' => fl = .next ∧ E' = setE (setE E x (.nds l)) y (.val (.nd i)) := fun f z s ok S X => by
 refine wpAny_Assign_Name (call_attr rfl rfl hline (live_name (e := .nds (l ++ [i])) ok S h trivial fun o e ⟨vs0,n,eo,al⟩ pl => ?_)) rfl
 subst eo
 refine byG fun G9 k9 => ?_
 obtain ⟨vs,v,rfl,al,r⟩ := al.snoc
 refine k9 ?_
 clear k9 G9
 have hlen := al.length
 refine getMethod_builtin ⟨_,e,rfl⟩ PySem.F.plainAttrs_list PySem.F.slot_list_pop PySem.F.type_list_pop (fun a q => by cases q; exact ⟨_,e,rfl⟩) ?_
 refine callWith_args S.on keep_builtin rfl (args_nil (env := f.env) ⟨S.on,?_⟩)
 refine call_meets PySem.F.slot_list_pop ⟨_,e,rfl⟩ PySem.F.entry_list_pop (PySem.F.args_list_pop_1 _) (PySem.MeetsSeq.list_pop_last (z.pl x) _ n v (by simp) (by simp [sizeLine]; omega)) ⟨e,?_⟩
 have e1 : (s.heap.update (z.pl x) (Obj.mapSeq fun xs => xs.eraseIdxIfInBounds ((vs ++ [v]).toArray.size - 1))).get? (z.pl x) = some (lobj vs (n + 1)) := by
  rw [Heap.get?_update_self _ e (by rw [mapSeq_pop]; rfl),mapSeq_pop]
 obtain ⟨S1,st1⟩ := S.wr (tk := s.toks) (e' := .nds l) h trivial trivial e e1 ((fun _ q => Data.noConfusion q)) (fun b o hb e => (Heap.get?_update_other _ _ (Ne.symm hb)).trans e) fun _ => ⟨vs,n + 1,rfl,al⟩
 exact S1.store ok hy ho (v := .nd i) r fun s2 S2 _ _ => ⟨.next,_,z,S2,rfl,rfl,rfl⟩
theorem WS_add {e : Expr} {xp ap cp sp : Pos} (h : E x = some (.nats l)) (hz : l.length ≤ 1000) (hline : (ap.endLine == cp.line) = true) (hst : noStar e = true) (hv : Ex P E e (.dat (.int (j : Int)))) :
  WS P E (.Expr (.Call (.Attribute (.Name x xp) "add" ap) [e] [] cp) sp) fun fl E' => fl = .next ∧ E' = setE E x (.nats (if j ∈ l then l else l ++ [j])) := fun f z s ok S X => by
 refine wpAny_Expr_any (call_attr rfl (by rw [star_cons hst]; rfl) hline (live_name (e := .nats l) ok S h trivial fun o e0 ho pl => ?_)) (fn_inter ok) rfl
 have ho : SetIs P.C o l := ho
 refine getMethod_set_add (ho.setOf e0 (by unfold scanBound; omega)) ?_
 refine callWith_args S.on keep_builtin (by rw [List.all_cons,hst]; rfl) (args_one hst (hv f z s ok S _ _ fun w s2 k2 r2 => ?_))
 refine byG fun G9 k9 => ?_
 obtain ⟨t,rfl⟩ := Rd.int_inv r2
 have S2 := S.kp k2
 obtain ⟨_,_,_,o2,e2,ho2⟩ := (S2.er x _ h).live (e := .nats l) trivial
 refine k9 ?_
 clear k9 G9
 have ho2 : SetIs P.C o2 l := ho2
 refine ⟨S2.on,call_set_add (k := (j : Int)) intKey rfl (ho2.setOf e2 (by unfold scanBound; omega)) (by unfold scanBound; omega) fun h' hsb hS' => ?_⟩
 obtain ⟨so',ho',hso'⟩ := hS'.objOf
 have hset := set_more hso'
 exact ⟨.next,_,z,(S2.wr (e' := .nats (if j ∈ l then l else l ++ [j])) h trivial trivial e2 ho' hset.cls.2.1 (fun b q hb e => (hsb.2 b hb).trans e) fun _ => hset).1,rfl,rfl,rfl⟩
theorem t_notInSet {e : Expr} {xp p : Pos} (h : E x = some (.nats l)) (hz : l.length ≤ 1000) (hv : Ex P E e (.dat (.int (j : Int)))) : Xt P E (.Compare e [.NotIn] [.Name x xp] p) (!decide (j ∈ l)) := fun f z s ok S Q X q =>
 wpAny_isTrue_Compare1 (hv f z s ok S _ _ fun w s1 k1 r1 => live_name (e := .nats l) ok (S.kp k1) h trivial fun o e0 ho => by
  have ho : SetIs P.C o l := ho
  obtain ⟨t,rfl⟩ := Rd.int_inv r1
  refine wpAny_notInSet_of (k := (j : Int)) intKey rfl (ho.setOf e0 (by unfold scanBound; omega)) (wpAny_truthy_bool ?_)
  have e1 : (∃ i ∈ l,(j : Int) = (i : Int)) ↔ j ∈ l := castMem
  have : (!decide (∃ i ∈ l,(j : Int) = (i : Int))) = !decide (j ∈ l) := by rw [decide_eq_decide.mpr e1]
  rw [this]
  exact q _ (k1.trans (Kp.of_keep fun _ _ e => e))) (by with_unfolding_all rfl)
end
end
section
structure MethIs (K : Frag) (name : Str) (f : Addr) : Prop where
 hg : plainGet K 125 name = true
 hf : findIn K (.ref 125) name = some (some (.ref f))
 ht : isFn K (.ref f) = true
 hk : keepIn K (.ref f) = true
 hn : name ∉ ktNames
theorem live_method {C : Cx} {A : Around} {s : Shared} {kt dx : Addr} {T : TS} {ad : List Ad} {fin : Bool} {name : Str} {fa : Addr} {pl : Sem Bool} {Q : Value × List Value → Shared → Prop} {Ex : Value → Shared → Prop} (on : C.On s) (L : Live C s.heap kt dx T ad fin) (hM : MethIs C.K name fa) (h : Q (.ref fa,[.ref kt]) s) : wpAny C.M A (PySem.getMethod (.ref kt) name pl) Q Ex s := by
 refine byG fun G9 k9 => ?_
 obtain ⟨az,haz,tz,⟨ok,ek,ck1,ck2,ck3⟩,es,ne,ed,as,le,gz,gc,gf,gi,gn⟩ := L.z
 refine k9 ?_
 clear k9 G9
 have I : InstAt s.heap kt ok 125 (some (dictOf es ne)) := ⟨ek,ck1,by unfold notCls; rw [ck3],by rw [ck2]; exact ed⟩
 exact method_fn (C.kin.keeps on) I (plainGet_of hM.hg).1 (plainGet_of hM.hg).2 hM.hf (beq_iff_eq.mp hM.ht) (by show (lookIn name (dictOf es ne)).map _ = _; rw [lookIn_dict,gn name hM.hn]; rfl) h
structure TStep (C : Cx) (s : Shared) (z : Lc) (s' : Shared) (ad' : List Ad) (T' : TS) (fin' : Bool) : Prop where
 L : Live C s'.heap z.kt z.dx T' ad' fin'
 ob : ∀ (j : Nat) a,ad'[j]? = some a → s'.heap.get? a.tab = T'.ob[j]?
 md : Md C.lo (PlT z.kt z.dx z.ad) s s'
 sub : ∀ (i : Nat) a,z.ad[i]? = some a → ad'[i]? = some a
 new : ∀ b,PlT z.kt z.dx ad' b → PlT z.kt z.dx z.ad b ∨ s.heap.get? b = none
noncomputable def Meth (C : Cx) (R : Nat) (un : Bool) (fa : Addr) (args : List V) (T : TS) (fin : Bool) (G : TS → Bool → Prop) : Prop :=
 ∀ (A : Around) (s : Shared) (z : Lc) (ws : List Value),(un = true → A.handled = none) → Rm C R A s → C.On s → C.lo ≤ s.heap.objs.size → (∀ b,z.lv b → ∃ o,s.heap.get? b = some o ∧ ∀ vs,o.data ≠ .fields vs) → Live C s.heap z.kt z.dx T z.ad fin →
  (∀ (j : Nat) a,z.ad[j]? = some a → s.heap.get? a.tab = T.ob[j]?) → (∀ b,PlT z.kt z.dx z.ad b → z.lv b ∧ C.h₀.get? b = none) → All2 (VR C s.heap z) args ws → ∀ Q X : Value → Shared → Prop,(∀ s' ad' T' fin',TStep C s z s' ad' T' fin' → G T' fin' → Q .none s') → wpAny C.M A (call (.ref fa) (.ref z.kt :: ws)) Q X s
section
variable {P : Pr} {E : StE} {T : TS} {fin : Bool} {G : TS → Bool → Prop}
theorem WS_meth {name : Str} {fa : Addr} {e : Expr} {args : List Expr} {vs : List V} {ap cp sp : Pos} (h : Meth P.C P.R P.un fa vs T fin G) (hM : MethIs P.C.K name fa) (hg : P.kd.rw = true) (hT : E "" = some (.tr T fin)) (hx : Ex P E e .kt) (ha : Xs P E args vs) (hline : (ap.endLine == cp.line) = true) (hl : args.length < 20)
  (hb : ∀ env,attributeBase e name env (eval e env) = eval e env := by intro _; rfl) (hs : ∀ env,swapsWith (.Call (.Attribute e name ap) args [] cp) none sp.line env = pure false := by intro _; rfl) :
  WS P E (.Expr (.Call (.Attribute e name ap) args [] cp) sp) fun fl E' => fl = .next ∧ ∃ T' fin',G T' fin' ∧ E' = setE E "" (.tr T' fin') := fun f z s ok S X => by
 refine wpAny_Expr_any (call_attr (hb f.env) ?_ hline (hx f z s ok S _ _ fun w s1 k1 r1 pl => ?_)) (fn_inter ok) (hs f.env)
 ·have h1 : (backTo cp (starEach args f.env)).all (fun x => !x.1) = true := by
   have := allFalse_star (env := f.env) (pos := cp) ha.1
   rw [List.all_eq_not_any_not]
   simpa using this
  rw [h1]
  exact decide_eq_true (show args.length + 0 + 0 < 30 by omega)
 ·have r1 : w = .ref z.kt := r1
  subst r1
  have S1 := S.kp k1
  refine live_method S1.on (S1.er _ _ hT).tree.L hM ?_
  refine callWith_args S1.on (keep_in hM.hk) ha.1 (ha.2 f z s1 _ ok S1 _ _ fun ws s2 k2 rs => ?_)
  have S2 := S1.kp k2
  have t := (S2.er _ _ hT).tree
  refine ⟨S2.on,h f.A s2 z ws ok.un S2.rm S2.on (S2.size ok) S2.lt t.L t.ob (fun b p => ⟨(t.wr hg b p).1,(t.wr hg b p).2.h₀⟩) rs _ _ fun s3 ad' T' fin' ts g => ?_⟩
  have S3 := (S2.treeW (z' := ⟨fun b => z.lv b ∨ (PlT z.kt z.dx ad' b ∧ s2.heap.get? b = none),z.kt,z.dx,ad',z.pl⟩) (T' := T') (fin' := fin') hg hT ts.md (fun _ => id) (fun b l => l.imp id fun ⟨p,n⟩ => ⟨n,S2.new ok n,let ⟨o,e,q⟩ := ts.L.ob p; ⟨o,e,q.s.nd⟩⟩) (fun _ => .inl) rfl rfl ts.sub rfl ts.L ts.ob fun b p => (ts.new b p).imp id fun n => ⟨.inr ⟨p,n⟩,n,S2.new ok n⟩).1
  exact ⟨.next,_,_,S3,rfl,rfl,T',fin',g,rfl⟩
theorem W_ret0 {Q : Fl → StE → Prop} {sp : Pos} (q : Q (.ret (.dat .none)) E) : WS P E (.Return none sp) Q := fun f z s ok S X =>
 wpAny_Return_none ⟨.ret (.dat .none),E,z,S,⟨_,rfl,rd_none⟩,q⟩
theorem W_brk {Q : Fl → StE → Prop} {sp : Pos} (q : Q .brk E) : WS P E (.Break sp) Q := fun f z s ok S X => wpAny_Break ⟨.brk,E,z,S,rfl,q⟩
end
theorem meth_run {C : Cx} {R : Nat} {names : Nm} {un : Bool} {fa : Addr} {fd : FuncData} {ps : List Str} {body : List Stmt} {args : List V} {T : TS} {fin : Bool} {G : TS → Bool → Prop} (hF : FnIs C fa fd ("self" :: ps) body names) (gb : ∀ x,isBn x = true → nsIn C.K mainGlobals x = some none)
  (hb : ∀ ws,ws.length = (("self" : Str) :: ps).length → bindArgs fd ⟨ws,[]⟩ = pure ((("self" : Str) :: ps).zip ws)) (hl : args.length = ps.length) (ho : ((("self" : Str) :: ps).all fun x => okName x && !(x == ("" : Str))) = true)
  (hw : W ⟨C,R,names,un,.meth⟩ (setE (initE (("self" : Str) :: ps) (.kt :: args)) "" (.tr T fin)) body fun fl E' => retV fl = .dat .none ∧ ∃ T' fin',G T' fin' ∧ E' "" = some (.tr T' fin')) : Meth C (R + 1) un fa args T fin G := fun A s z ws hu M on hlo lt L ob pl rs Q X q => by
 have rs' : All2 (VR C s.heap z) (.kt :: args) (.ref z.kt :: ws) := .cons rfl rs
 have len : (Value.ref z.kt :: ws).length = (("self" : Str) :: ps).length := by rw [← rs'.length,List.length_cons,List.length_cons,hl]
 have hE : ∀ x e,setE (initE (("self" : Str) :: ps) (.kt :: args)) "" (.tr T fin) x = some e → (x = ("" : Str) ∧ e = .tr T fin) ∨ ∃ v w,e = .val v ∧ (x,w) ∈ (("self" : Str) :: ps).zip (Value.ref z.kt :: ws) ∧ VR C s.heap z v w := fun x e h => by
  unfold setE at h
  by_cases hx : x = ("" : Str)
  ·rw [if_pos hx] at h; obtain rfl := Option.some.inj h; exact .inl ⟨hx,rfl⟩
  ·rw [if_neg hx] at h; exact .inr (initE_get rs' x e h)
 have okn : ∀ x w,(x,w) ∈ (("self" : Str) :: ps).zip (Value.ref z.kt :: ws) → okName x = true := fun x w h => by
  have := List.all_eq_true.mp ho x (by rw [← zip_fst len]; exact List.mem_map.mpr ⟨_,h,rfl⟩)
  rw [Bool.and_eq_true] at this; exact this.1
 refine call_W (kd := .meth) (Z := PlT z.kt z.dx z.ad) hF gb hu M on hlo lt (fun b o p e => ?_) ⟨fun x v hx => ?_,fun x T' f' hx => ?_,fun x e hx l => ?_⟩ len (hb _ len) hw fun fl E' f z' s' w S h0 hZ hzb hc r q' => ?_
 ·obtain ⟨o',e',t⟩ := L.ob p
  rw [e] at e'; cases e'
  exact ⟨(pl b p).1,fun _ => t.q,t.s.nd⟩
 ·rcases hE x _ hx with ⟨_,e⟩ | ⟨v',w,e,h1,h2⟩
  ·cases e
  ·cases e; exact ⟨w,h1,okn x w h1,h2⟩
 ·rcases hE x _ hx with ⟨h1,e⟩ | ⟨v',w,e,_⟩
  ·cases e; exact ⟨h1,L,ob,(fun q => Kd.noConfusion q),fun _ b p => ⟨(pl b p).1,(pl b p).2,p⟩,fun q => Kd.noConfusion q⟩
  ·cases e
 ·rcases hE x _ hx with ⟨_,e⟩ | ⟨v',w,e,_⟩ <;> subst e <;> exact l
 ·obtain ⟨hr,T',f',g,hT⟩ := q'
  have t := (S.er _ _ hT).tree
  obtain ⟨z1,z2,z3⟩ := S.zt rfl
  have wr := t.wr rfl
  have md := S.md
  rw [hzb] at z1 z2 z3
  rw [h0,hZ] at md
  rw [hr] at r
  have r : w = .none := Rd.none_inv r
  subst r
  have tl := t.L
  rw [z1,z2] at tl
  refine q s' z'.ad T' f' ⟨tl,t.ob,md,z3,fun b p => ?_⟩ g
  have := (wr b (by rw [z1,z2]; exact p)).2.z
  rw [h0,hZ] at this
  exact this
end
section
theorem All2.get {α β : Type} {R : α → β → Prop} {as : List α} {bs : List β} (h : All2 R as bs) : ∀ {k : Nat} {b : β},bs[k]? = some b → ∃ a,as[k]? = some a ∧ R a b := by
 induction h with
 | nil => exact fun h => by simp at h
 | cons x xs ih =>
  intro k b h
  cases k with
  | zero => exact ⟨_,rfl,Option.some.inj h ▸ x⟩
  | succ k => exact ih h
inductive TabI (ad : List Ad) (tr : List (Int × Nat)) (k : Nat) : Int × Value → Prop
 | mk (c : Int) (j : Nat) (b : Ad) (ht : tr[k]? = some (c,j)) (hb : ad[j]? = some b) : TabI ad tr k (c,.ref b.adr)
theorem tab_get {ad : List Ad} {tr : List (Int × Nat)} {kvs : List (Int × Value)} (al : All2 (TabR ad) tr kvs) {k : Nat} {kv : Int × Value} (h : kvs[k]? = some kv) : TabI ad tr k kv := by
 obtain ⟨⟨c,j⟩,ht,e,b,hb,hv⟩ := al.get h
 obtain ⟨c',v⟩ := kv
 cases e; cases hv
 exact ⟨c,j,b,ht,hb⟩
inductive FT (P : Pr) (f : Fx) (I : Nat → StE → Prop) (z0 : Lc) (len : Nat) (It : Nat → Heap → Prop) (m : Nat) (s : Shared) : Prop
 | mk (k : Nat) (z : Lc) (E : StE) (hk : k ≤ len) (hm : m = len + 1 - k) (S : St P f z E s) (hI : I k E) (it : It k s.heap) (ha : ∀ (j : Nat) b,z0.ad[j]? = some b → z.ad[j]? = some b)
section
variable {P : Pr} {f : Fx} {z : Lc} {E E0 : StE} {s : Shared} {T : TS} {fin : Bool} {i : Nat} {n : PNd}
theorem FT.next {sA s4 : Shared} {z0 z4 : Lc} {E4 : StE} {I : Nat → StE → Prop} {len k nn : Nat} {It : Nat → Heap → Prop} (ok : FOk P f) (hm : P.kd.fx = true) (hn : nn = len + 1 - k) (SA : St P f z E sA) (S4 : St P (f.re z sA) z4 E4 s4) (hI : I (k + 1) E4) (hk : k < len) (ha : ∀ (j : Nat) b,z0.ad[j]? = some b → z.ad[j]? = some b) (it : It (k + 1) s4.heap) : ∃ m,m < nn ∧ FT P f I z0 len It m s4 :=
 ⟨len + 1 - (k + 1),hn ▸ Nat.sub_succ_lt_self _ _ (Nat.lt_succ_of_lt hk),k + 1,z4,E4,hk,rfl,SA.back ok S4,hI,it,fun j b e => (S4.zt hm).2.2 j b (ha j b e)⟩
theorem WS_forV {e : Expr} {x : Str} {px ap cp sp : Pos} {body : List Stmt} {Q : Fl → StE → Prop} (hu : P.un = true) (hm : P.kd.fx = true) (he : Ee P E0 e (.tab i) E) (hT : E "" = some (.tr T fin)) (hn : T.T[i]? = some n) (hx : isLC P.names x = true) (ho : okName x = true) (hline : (ap.endLine == cp.line) = true)
  (I : Nat → StE → Prop) (h0 : I 0 E) (hI : ∀ k E,I k E → ∃ T' fin',E "" = some (.tr T' fin') ∧ T'.ob[i]? = T.ob[i]?) (hs : ∀ k c j E,n.tr[k]? = some (c,j) → I k E → W P (setE E x (.val (.nd j))) body (LpQ (I (k + 1)) Q)) (h : ∀ E',I n.tr.length E' → Q .next E')
  (hbase : ∀ env,attributeBase e "values" env (eval e env) = eval e env := by intro _; rfl) : WS P E0 (.For (.Name x px) (.Call (.Attribute e "values" ap) [] [] cp) body [] sp) Q := fun f z s ok S X => by
 refine wpAny_For (wpAny_Call_method (T := "dict") (id := "dict.values") (hbase f.env) rfl hline PySem.F.plainAttrs_dict PySem.F.slot_dict_values PySem.F.type_dict_values (he f z s ok S _ _ fun w s1 S1 r1 => ?_)) fun _ => rfl
 refine byG fun G0 k0 => ?_
 obtain ⟨a,kvs,rfl,ha,hd,al,hsys⟩ := (S1.er _ _ hT).tree.tab hn r1
 obtain ⟨ep,hA⟩ := hd.dictAt
 refine k0 ?_
 refine ⟨hd.typeIs,hd.mapOf.noDict,?_⟩
 refine method_meetsIn PySem.F.slot_dict_values PySem.F.entry_dict_values rfl (PySem.evalArgs_none ⟨rfl,hd.typeIs,PySem.F.args_dict_values_1 _,_,meets_dict_values (intKind P.C.prog P.C.w) a.tab hsys,⟨kvs,hd⟩,?_⟩)
 have S2 := S1.kp (Kp.push' (s := s1) (o := { cls := .type "dict_values",data := .fields #[.ref a.tab] }))
 refine wpAny_pyIter_values (knd := intKind P.C.prog P.C.w) (d := a.tab) (kvs := kvs) (ep := ep) ⟨_,Heap.get?_push_size _ rfl,rfl,rfl⟩ (hA.push _) ?_
 generalize hH : s1.heap.push { cls := .type "dict_values",data := .fields #[.ref a.tab] } = H at S2
 show codeAny P.C.M f.A _ _ { s1 with heap := H.push _ }
 have wI := S2.wb ok (get_none_size H)
 have S3 := S2.kp (Kp.push' (s := { s1 with heap := H }) (o := { cls := .type "dict_valueiterator",data := .fields #[.ref a.tab,.int 0 0,.int kvs.length 0,.int ep 0] }))
 show codeAny P.C.M f.A (.forLoop _ (.ref H.objs.size) body [] f.env) _ _
 have hit0 : (H.push { cls := .type "dict_valueiterator",data := .fields #[.ref a.tab,.int 0 0,.int kvs.length 0,.int ep 0] }).IsValIter H.objs.size a.tab 0 kvs.length ep := ⟨_,Heap.get?_push_size _ rfl,rfl,rfl⟩
 generalize H.objs.size = it at wI hit0
 have tob := (S1.er _ _ hT).tree.ob i a ha
 have hlen := al.length
 refine codeAny_forLoop_any (FT P f I z kvs.length fun k h => h.IsValIter it a.tab k kvs.length ep) (fun nn s3 x => byG fun G1 k1 => ?_) (kvs.length + 1) ⟨0,z,E,Nat.zero_le _,rfl,S3,h0,hit0,fun _ _ e => e⟩
 obtain ⟨k,z3,E3,hk,hm',S3,hI3,hit,ha3⟩ := x
 obtain ⟨oi,ei,ci,di⟩ := id hit
 obtain ⟨T3,f3,hT3,ob3⟩ := hI k E3 hI3
 have at3 : s3.heap.DictAt (intKind P.C.prog P.C.w) a.tab kvs ep := hA.at fun o e => by rw [(S3.er _ _ hT3).tree.ob i a (ha3 i a ha),ob3,← tob]; exact e
 cases hv : kvs[k]? with
 | none =>
  refine k1 (wpAny_pyNext_values_end (ok.un hu) hit at3 hv fun h₁ he₁ => wpAny_execs_nil ?_)
  have hk' : k = n.tr.length := hlen ▸ Nat.le_antisymm hk (by simpa using hv)
  exact ⟨.next,_,_,(S3.tick (tk := s3.toks) ei di wI fun b o hb e => he₁ b o (by simpa using hb) e).1,rfl,h _ (hk' ▸ hI3)⟩
 | some kv =>
  obtain ⟨c,j,b,htr,hb⟩ := tab_get al hv
  refine k1 (wpAny_pyNext_values_item hit at3 hv fun h₁ hit₁ hs₁ => wpAny_of_eq (a := ()) rfl (byG fun G2 k2 => ?_))
  obtain ⟨SA,stA⟩ := S3.tick (tk := s3.toks) (h1 := h₁) ei di wI fun b o hb e => (hs₁.2 b fun q => hb (List.mem_singleton.mpr q)).trans e
  obtain ⟨okr,Sr⟩ := SA.re ok
  obtain ⟨o5,e5,c5,d5⟩ := id hit₁
  refine k2 (wpAny_assign_Name (Sr.store okr hx ho (v := .nd j) ⟨b,ha3 j b hb,rfl⟩ fun s4 S4 _ fk => ?_))
  refine wpAny_mono (hs k c j E3 htr hI3 _ _ s4 okr S4 _) (fun fw s5 x => loop_out x (fun _ _ => SA.back ok) fun z5 E5 S5 q5 => ?_) fun _ _ => id
  exact FT.next ok hm hm' SA S5 q5 (List.getElem?_eq_some_iff.mp hv).1 ha3 ⟨o5,(SA.kept ok S5 e5 ⟨c5 ▸ ne_fr (by decide),.inl ⟨_,d5⟩⟩).1,c5,d5⟩
theorem WS_forI {e : Expr} {xk xv : Str} {pk pv pt ap cp sp : Pos} {x1 : Nat} {body : List Stmt} {Q : Fl → StE → Prop} (hu : P.un = true) (hm : P.kd.fx = true) (hT : E "" = some (.tr T fin)) (he : Ex P E e (.tab i)) (hn : T.T[i]? = some n) (hxk : isLC P.names xk = true) (hok : okName xk = true) (hxv : isLC P.names xv = true) (hov : okName xv = true) (hline : (ap.endLine == cp.line) = true)
  (I : Nat → StE → Prop) (h0 : I 0 E) (hI : ∀ k E,I k E → ∃ T' fin',E "" = some (.tr T' fin') ∧ T'.ob[i]? = T.ob[i]?) (hs : ∀ k c j E,n.tr[k]? = some (c,j) → I k E → W P (setE (setE E xk (.val (.dat (.int c)))) xv (.val (.nd j))) body (LpQ (I (k + 1)) Q)) (h : ∀ E',I n.tr.length E' → Q .next E')
  (hbase : ∀ env,attributeBase e "items" env (eval e env) = eval e env := by intro _; rfl) : WS P E (.For (.Tuple [.Name xk pk,.Name xv pv] x1 pt) (.Call (.Attribute e "items" ap) [] [] cp) body [] sp) Q := fun f z s ok S X => by
 refine wpAny_For (wpAny_Call_method (T := "dict") (id := "dict.items") (hbase f.env) rfl hline PySem.F.plainAttrs_dict PySem.F.slot_dict_items PySem.F.type_dict_items (he f z s ok S _ _ fun w s1 k1 r1 => ?_)) fun _ => rfl
 have S1 := S.kp k1
 refine byG fun G0 k0 => ?_
 obtain ⟨a,kvs,rfl,ha,hd,al,hsys⟩ := (S1.er _ _ hT).tree.tab hn r1
 obtain ⟨ep,hA⟩ := hd.dictAt
 refine k0 ?_
 refine ⟨hd.typeIs,hd.mapOf.noDict,?_⟩
 refine method_meetsIn PySem.F.slot_dict_items PySem.F.entry_dict_items rfl (PySem.evalArgs_none ⟨rfl,hd.typeIs,PySem.F.args_dict_items_1 _,_,meets_dict_items (intKind P.C.prog P.C.w) a.tab hsys,⟨kvs,hd⟩,?_⟩)
 have S2 := S1.kp (Kp.push' (s := s1) (o := { cls := .type "dict_items",data := .fields #[.ref a.tab] }))
 refine wpAny_pyIter_items (knd := intKind P.C.prog P.C.w) (d := a.tab) (kvs := kvs) (ep := ep) ⟨_,Heap.get?_push_size _ rfl,rfl,rfl⟩ (hA.push _) ?_
 generalize hH : s1.heap.push { cls := .type "dict_items",data := .fields #[.ref a.tab] } = H at S2
 show codeAny P.C.M f.A _ _ { s1 with heap := H.push _ }
 have wI := S2.wb ok (get_none_size H)
 have S3 := S2.kp (Kp.push' (s := { s1 with heap := H }) (o := { cls := .type "dict_itemiterator",data := .fields #[.none,.bool false,.ref a.tab,.int 0 0,.int kvs.length 0,.int ep 0,.none,.none] }))
 show codeAny P.C.M f.A (.forLoop _ (.ref H.objs.size) body [] f.env) _ _
 have hit0 : ∃ ok ov,IsItemIter (H.push { cls := .type "dict_itemiterator",data := .fields #[.none,.bool false,.ref a.tab,.int 0 0,.int kvs.length 0,.int ep 0,.none,.none] }) H.objs.size a.tab 0 kvs.length ep ok ov := ⟨.none,.none,Heap.get?_push_size _ rfl⟩
 generalize H.objs.size = it at wI hit0
 have tob := (S1.er _ _ hT).tree.ob i a ha
 have hlen := al.length
 refine codeAny_forLoop_any (FT P f I z kvs.length fun k h => ∃ ok ov,IsItemIter h it a.tab k kvs.length ep ok ov) (fun nn s3 x => byG fun G1 k1 => ?_) (kvs.length + 1) ⟨0,z,E,Nat.zero_le _,rfl,S3,h0,hit0,fun _ _ e => e⟩
 obtain ⟨k,z3,E3,hk,hm',S3,hI3,⟨okv,ovv,hit⟩,ha3⟩ := x
 obtain ⟨T3,f3,hT3,ob3⟩ := hI k E3 hI3
 have at3 : s3.heap.DictAt (intKind P.C.prog P.C.w) a.tab kvs ep := hA.at fun o e => by rw [(S3.er _ _ hT3).tree.ob i a (ha3 i a ha),ob3,← tob]; exact e
 cases hv : kvs[k]? with
 | none =>
  refine k1 (wpAny_pyNext_items_end (ok.un hu) hit at3 hv fun h₁ he₁ => wpAny_execs_nil ?_)
  have hk' : k = n.tr.length := hlen ▸ Nat.le_antisymm hk (by simpa using hv)
  exact ⟨.next,_,_,(S3.tick (tk := s3.toks) hit rfl wI fun b o hb e => he₁ b o (by simpa using hb) e).1,rfl,h _ (hk' ▸ hI3)⟩
 | some kv =>
  obtain ⟨c,j,b,htr,hb⟩ := tab_get al hv
  refine k1 (wpAny_pyNext_items_item hit at3 hv fun key h₁ hkey heo ht₁ hz₁ hk₁ => byG fun G2 k2 => ?_)
  obtain ⟨tq,rfl⟩ := intKey_inv hkey
  refine k2 ?_
  refine wpAny_letOwnedTupleGo_items heo fun h₂ he₂ hs₂ => ?_
  replace hs₂ : Heap.SameBut it h₁ h₂ := hs₂
  have hiH : it < s3.heap.objs.size := Heap.lt_size hit
  have ht₂ : h₂.IsTuple s3.heap.objs.size #[.int c tq,.ref b.adr] := ⟨_,(hs₂.2 _ (Nat.ne_of_gt hiH)).trans ht₁,rfl,_,rfl⟩
  have SA := (S3.tick (tk := s3.toks) (h1 := h₂) hit rfl wI fun b o hb e => (hs₂.2 b fun q => hb (List.mem_singleton.mpr q)).trans (hk₁ b o (fun q => hb (List.mem_singleton.mpr q)) e)).1
  refine wpAny_assign_Tuple (ok.un hu) ht₂ rfl rfl fun h₃ hx₃ => ?_
  replace hx₃ : Heap.ExtBut h₂.objs.size h₂ h₃ := hx₃
  have keep3 : ∀ b o,h₂.get? b = some o → h₃.get? b = some o := fun b o e => hx₃ b o (ne_size e) e
  have SB := SA.kp (s' := { s3 with heap := h₃ }) (Kp.of_keep (tk := s3.toks) keep3)
  have okr := (SB.re ok).1
  show wpAny _ _ (do holding [.ref b.adr] (PySem.assign (.Name xk pk) f.env (.int c tq)); do holding [] (PySem.assign (.Name xv pv) f.env (.ref b.adr)); pure ()) _ _ _
  refine wpAny_bind (wpAny_holding (wpAny_assign_Name ((SB.re ok).2.store okr hxk hok (v := .dat (.int c)) rd_int fun s4 S4 _ _ => ?_)))
  refine wpAny_bind (wpAny_holding (wpAny_assign_Name (S4.store okr hxv hov (v := .nd j) ⟨b,ha3 j b hb,rfl⟩ fun s5 S5 _ _ => wpAny_pure ?_)))
  refine wpAny_mono (hs k c j E3 htr hI3 _ _ s5 okr S5 _) (fun fw s6 x => loop_out x (fun _ _ => SB.back ok) fun z6 E6 S6 q6 => ?_) fun _ _ => id
  exact FT.next ok hm hm' SB S6 q6 (List.getElem?_eq_some_iff.mp hv).1 ha3 ⟨_,_,(SB.kept ok S6 (keep3 _ _ he₂) ⟨ne_fr (by decide),.inl ⟨_,rfl⟩⟩).1⟩
end
end
section
noncomputable abbrev KK (P : Params) : Frag := kF P
theorem slot_identifier (P : Params) : SlotIs (KK P) 34 "identifier" 0 := ⟨rfl,rfl,rfl,rfl,⟨35,rfl,rfl,rfl,rfl,rfl,rfl⟩,by decide⟩
theorem slot_lss (P : Params) : SlotIs (KK P) 34 "longest_strict_suffix" 1 := ⟨rfl,rfl,rfl,rfl,⟨36,rfl,rfl,rfl,rfl,rfl,rfl⟩,by decide⟩
theorem slot_kw (P : Params) : SlotIs (KK P) 34 "matched_keyword" 2 := ⟨rfl,rfl,rfl,rfl,⟨37,rfl,rfl,rfl,rfl,rfl,rfl⟩,by decide⟩
theorem slot_outs (P : Params) : SlotIs (KK P) 34 "outputs" 3 := ⟨rfl,rfl,rfl,rfl,⟨38,rfl,rfl,rfl,rfl,rfl,rfl⟩,by decide⟩
theorem slot_par (P : Params) : SlotIs (KK P) 34 "parent" 4 := ⟨rfl,rfl,rfl,rfl,⟨39,rfl,rfl,rfl,rfl,rfl,rfl⟩,by decide⟩
theorem slot_suc (P : Params) : SlotIs (KK P) 34 "success" 5 := ⟨rfl,rfl,rfl,rfl,⟨40,rfl,rfl,rfl,rfl,rfl,rfl⟩,by decide⟩
theorem slot_sym (P : Params) : SlotIs (KK P) 34 "symbol" 6 := ⟨rfl,rfl,rfl,rfl,⟨41,rfl,rfl,rfl,rfl,rfl,rfl⟩,by decide⟩
theorem slot_tr (P : Params) : SlotIs (KK P) 34 "transitions" 7 := ⟨rfl,rfl,rfl,rfl,⟨42,rfl,rfl,rfl,rfl,rfl,rfl⟩,by decide⟩
theorem attr_is (P : Params) {name : Str} (h1 : plainGet (KK P) 125 name = true) (h2 : takerIn (KK P) 125 name = some none) (h3 : findIn (KK P) (.ref 125) name = some none) : AttrIs (KK P) 125 name := ⟨rfl,rfl,h1,h2,rfl,none,h3,rfl⟩
theorem at_zero (P : Params) : AttrIs (KK P) 125 "_zero_state" := attr_is P rfl rfl rfl
theorem at_counter (P : Params) : AttrIs (KK P) 125 "_counter" := attr_is P rfl rfl rfl
theorem at_finalized (P : Params) : AttrIs (KK P) 125 "_finalized" := attr_is P rfl rfl rfl
theorem at_case (P : Params) : AttrIs (KK P) 125 "_case_insensitive" := attr_is P rfl rfl rfl
theorem at_skip (P : Params) : AttrIs (KK P) 125 "_skip_pattern" := attr_is P rfl rfl rfl
theorem at_skipt (P : Params) : AttrIs (KK P) 125 "_skip_pattern_type" := attr_is P rfl rfl rfl
theorem meth_lss (P : Params) : MethIs (KK P) "search_lss" 122 := ⟨rfl,rfl,rfl,rfl,by decide⟩
theorem meth_lfc (P : Params) : MethIs (KK P) "search_lss_for_children" 115 := ⟨rfl,rfl,rfl,rfl,by decide⟩
theorem meth_pre (P : Params) : MethIs (KK P) "_precompute_outputs" 108 := ⟨rfl,rfl,rfl,rfl,by decide⟩
theorem meth_add (P : Params) : MethIs (KK P) "add" 66 := ⟨rfl,rfl,rfl,rfl,by decide⟩
theorem meth_fin (P : Params) : MethIs (KK P) "finalize" 101 := ⟨rfl,rfl,rfl,rfl,by decide⟩
theorem meth_srch (P : Params) : MethIs (KK P) "search_all" 87 := ⟨rfl,rfl,rfl,rfl,by decide⟩
noncomputable def mBd (i j : Nat) : List Stmt := match s2 i j with
 | .FunctionDef _ _ b _ _ _ _ _ _ _ => b
 | _ => []
noncomputable def mNm (i j : Nat) : Nm := match s2 i j with
 | .FunctionDef _ _ _ _ _ _ sc _ _ _ => sc.names
 | _ => []
structure Kn (C : Cx) : Prop where
 K : C.K = KK C.w.params
theorem Kn.sl {C : Cx} (h : Kn C) {n : Str} {k : Nat} (x : SlotIs (KK C.w.params) 34 n k) : SlotIs C.K 34 n k := h.K ▸ x
theorem Kn.at {C : Cx} (h : Kn C) {n : Str} (x : AttrIs (KK C.w.params) 125 n) : AttrIs C.K 125 n := h.K ▸ x
theorem Kn.me {C : Cx} (h : Kn C) {n : Str} {a : Addr} (x : MethIs (KK C.w.params) n a) : MethIs C.K n a := h.K ▸ x
theorem Kn.gb {C : Cx} (h : Kn C) : ∀ x,isBn x = true → nsIn C.K mainGlobals x = some none := fun x hx => by
 rw [h.K]
 have hx : ([("len" : Str),"range","tuple","list","max","min","set","enumerate","KeyError","sorted"]).contains x = true := hx
 simp only [List.contains_cons,List.contains_nil,Bool.or_false,Bool.or_eq_true,beq_iff_eq] at hx
 rcases hx with rfl | rfl | rfl | rfl | rfl | rfl | rfl | rfl | rfl | rfl <;> rfl
theorem Kn.fn {C : Cx} (h : Kn C) {fa : Addr} {oc : Value} {od : Option Addr} {fd : FuncData} {osl : Array (Option Value)} {ps : List Str} {body : List Stmt} {names : Nm} (h1 : (KK C.w.params).lookup fa = some ⟨oc,od,.func fd,osl⟩) (h2 : codeIn (KK C.w.params) fd.code fd.qualname = true)
  (h3 : fd.body = .stmts body) (h4 : fd.closure = []) (h5 : fd.globals = mainGlobals) (h6 : fd.builtins = builtinsNs) (h7 : (fd.scope.isCoroutine || fd.scope.isGenerator) = false) (h8 : fd.scope.kind = .function) (h9 : names = fd.scope.names) (h10 : decide ((names.map (·.1)).Nodup) = true) (h11 : decide ps.Nodup = true)
  (h12 : (ps.all fun x => match names.lookup x with | some .local | some .cell => true | _ => false) = true) (h13 : (names.all fun p => match p.2 with | .free => false | _ => true) = true) : FnIs C fa fd ps body names := by
 rw [Bool.or_eq_false_iff] at h7
 refine ⟨⟨oc,od,osl,by rw [h.K]; exact h1⟩,by rw [h.K]; exact h2,h3,h4,h5,h6,h7.1,h7.2,h8,h9,h9 ▸ of_decide_eq_true h10,of_decide_eq_true h11,fun x hx => ?_,fun x hx => ?_⟩
 ·have := List.all_eq_true.mp h12 x hx
  rw [h9] at this
  split at this
  ·rename_i e; exact .inl e
  ·rename_i e; exact .inr e
  ·cases this
 ·have := List.all_eq_true.mp h13 _ (h9 ▸ mem_of_lookup hx)
  cases this
theorem fn_lss {C : Cx} (h : Kn C) : ∃ fd,FnIs C 122 fd ["self","state"] (mBd 2 9) (mNm 2 9) ∧ ∀ a b,bindArgs fd ⟨[a,b],[]⟩ = pure [(("self" : Str),a),(("state" : Str),b)] := ⟨_,h.fn rfl rfl rfl rfl rfl rfl rfl rfl rfl rfl rfl rfl rfl,fun _ _ => rfl⟩
theorem fn_lfc {C : Cx} (h : Kn C) : ∃ fd,FnIs C 115 fd ["self","zero_state"] (mBd 2 8) (mNm 2 8) ∧ ∀ a b,bindArgs fd ⟨[a,b],[]⟩ = pure [(("self" : Str),a),(("zero_state" : Str),b)] := ⟨_,h.fn rfl rfl rfl rfl rfl rfl rfl rfl rfl rfl rfl rfl rfl,fun _ _ => rfl⟩
theorem fn_pre {C : Cx} (h : Kn C) : ∃ fd,FnIs C 108 fd ["self"] (mBd 2 7) (mNm 2 7) ∧ ∀ a,bindArgs fd ⟨[a],[]⟩ = pure [(("self" : Str),a)] := ⟨_,h.fn rfl rfl rfl rfl rfl rfl rfl rfl rfl rfl rfl rfl rfl,fun _ => rfl⟩
theorem fn_fin {C : Cx} (h : Kn C) : ∃ fd,FnIs C 101 fd ["self"] (mBd 2 6) (mNm 2 6) ∧ ∀ a,bindArgs fd ⟨[a],[]⟩ = pure [(("self" : Str),a)] := ⟨_,h.fn rfl rfl rfl rfl rfl rfl rfl rfl rfl rfl rfl rfl rfl,fun _ => rfl⟩
theorem fn_add {C : Cx} (h : Kn C) : ∃ fd,FnIs C 66 fd ["self","keyword"] (mBd 2 1) (mNm 2 1) ∧ ∀ a b,bindArgs fd ⟨[a,b],[]⟩ = pure [(("self" : Str),a),(("keyword" : Str),b)] := ⟨_,h.fn rfl rfl rfl rfl rfl rfl rfl rfl rfl rfl rfl rfl rfl,fun _ _ => rfl⟩
theorem len1 {α : Type} {l : List α} (h : l.length = 1) : ∃ a,l = [a] := by match l,h with | [a],_ => exact ⟨a,rfl⟩
theorem len2 {α : Type} {l : List α} (h : l.length = 2) : ∃ a b,l = [a,b] := by match l,h with | [a,b],_ => exact ⟨a,b,rfl⟩
end
section
theorem setE_same (E : StE) (x : Str) (a b : Ent) : setE (setE E x a) x b = setE E x b := by
 funext y; unfold setE; by_cases h : y = x <;> simp [h]
theorem setE_id {E : StE} {x : Str} {a : Ent} (h : E x = some a) : setE E x a = E := by
 funext y; unfold setE; split
 ·rename_i e; rw [e,h]
 ·rfl
theorem W_s {P : Pr} {E E' : StE} {st : Stmt} {r : List Stmt} {Q : Fl → StE → Prop} (h : WS P E st fun fl E2 => fl = .next ∧ E2 = E') (k : W P E' r Q) : W P E (st :: r) Q :=
 W_cons (h.mono fun fl E2 ⟨e1,e2⟩ => by subst e1; subst e2; exact k)
theorem W_sx {P : Pr} {E : StE} {α : Type} {F : α → StE} {st : Stmt} {r : List Stmt} {Q : Fl → StE → Prop} (h : WS P E st fun fl E2 => fl = .next ∧ ∃ a,E2 = F a) (k : ∀ a,W P (F a) r Q) : W P E (st :: r) Q :=
 W_cons (h.mono fun fl E2 ⟨e1,a,e2⟩ => by subst e1; subst e2; exact k a)
structure TabsP (T T' : TS) : Prop where
 len : T'.T.length = T.T.length
 tb : ∀ (j : Nat) n n',T.T[j]? = some n → T'.T[j]? = some n' → n.tr.length ≤ n'.tr.length ∧ (n'.tr.length = n.tr.length → T'.ob[j]? = T.ob[j]?)
theorem TabsP.refl (T : TS) : TabsP T T := ⟨rfl,fun j n n' h1 h2 => by rw [h1] at h2; obtain rfl := Option.some.inj h2; exact ⟨Nat.le_refl _,fun _ => rfl⟩⟩
theorem TabsP.trans {T T' T'' : TS} (x : TabsP T T') (y : TabsP T' T'') : TabsP T T'' := ⟨y.len.trans x.len,fun j n n'' h1 h3 => by
 have hj : j < T'.T.length := by rw [x.len]; exact (List.getElem?_eq_some_iff.mp h1).1
 obtain ⟨a1,a2⟩ := x.tb j n _ h1 (List.getElem?_eq_getElem hj)
 obtain ⟨b1,b2⟩ := y.tb j _ n'' (List.getElem?_eq_getElem hj) h3
 exact ⟨Nat.le_trans a1 b1,fun e => (b2 (by omega)).trans (a2 (by omega))⟩⟩
theorem TabsP.slot {T : TS} {i : Nat} {n n' : PNd} (hn : T.T[i]? = some n) (htr : n'.tr = n.tr) : TabsP T ⟨T.T.set i n',T.ob,T.cn⟩ := ⟨List.length_set ..,fun j m m' h1 h2 => by
 refine ⟨?_,fun _ => rfl⟩
 by_cases hij : i = j
 ·subst hij
  rw [List.getElem?_set_self (List.getElem?_eq_some_iff.mp hn).1] at h2; obtain rfl := Option.some.inj h2
  rw [hn] at h1; obtain rfl := Option.some.inj h1
  rw [htr]; exact Nat.le_refl _
 ·have h2 : (T.T.set i n')[j]? = some m' := h2
  rw [List.getElem?_set_ne hij,h1] at h2; obtain rfl := Option.some.inj h2; exact Nat.le_refl _⟩
theorem TabsP.tab {T : TS} {i : Nat} {n : PNd} {p : Int × Nat} {o : Obj} (hn : T.T[i]? = some n) : TabsP T ⟨T.T.set i { n with tr := n.tr ++ [p] },T.ob.set i o,T.cn⟩ := ⟨List.length_set ..,fun j m m' h1 h2 => by
 by_cases hij : i = j
 ·subst hij
  rw [List.getElem?_set_self (List.getElem?_eq_some_iff.mp hn).1] at h2; obtain rfl := Option.some.inj h2
  rw [hn] at h1; obtain rfl := Option.some.inj h1
  refine ⟨by simp,fun e => ?_⟩
  simp at e
 ·have h2 : (T.T.set i _)[j]? = some m' := h2
  rw [List.getElem?_set_ne hij,h1] at h2; obtain rfl := Option.some.inj h2
  exact ⟨Nat.le_refl _,fun _ => List.getElem?_set_ne hij⟩⟩
theorem Rm.less {C : Cx} {R R' : Nat} {A : Around} {s : Shared} (M : Rm C R' A s) (h : R ≤ R') : Rm C R A s := ⟨by have := M.depth; omega,by have := M.units; omega,M.fr⟩
theorem Meth.mono {C : Cx} {R R' : Nat} {un : Bool} {fa : Addr} {args : List V} {T : TS} {fin : Bool} {G G' : TS → Bool → Prop} (h : Meth C R un fa args T fin G) (hR : R ≤ R') (k : ∀ T' f',G T' f' → G' T' f') : Meth C R' un fa args T fin G' :=
 fun A s z ws hu M on hlo lt L ob pl rs Q X q => h A s z ws hu (M.less hR) on hlo lt L ob pl rs Q X fun s' ad' T' f' ts g => q s' ad' T' f' ts (k T' f' g)
theorem bindE' {α β : Type} {o : Option α} {g : α → Option β} {b : β} (h : o.bind g = some b) : ∃ a,o = some a ∧ g a = some b := Option.bind_eq_some_iff.mp h
theorem ng : Kd.meth.rw = true := rfl
structure LssG (T : TS) (T1 : List PNd) (T' : TS) (fin' : Bool) : Prop where
 f : fin' = false
 e : T'.T = T1
 tb : TabsP T T'
structure LF (T2 : TS) (i : Nat) (n2 nr2 : PNd) (k : Nat) (E : StE) : Prop where
 T : ∃ T9 : TS,E "" = some (.tr T9 false) ∧ T9.T = T2.T.set i { n2 with tr := mergeT n2.tr (nr2.tr.take k) } ∧ TabsP T2 T9
 st : E "state" = some (.val (.nd i))
theorem lss_call {P : Pr} {E : StE} {T : TS} {T2 : List PNd} {fl : Fl} {E' : StE} (q : fl = .next ∧ ∃ T' f',LssG T T2 T' f' ∧ E' = setE E "" (.tr T' f')) : Aft2 P [] (fun fl E0 => fl = .next ∧ ∃ T2' : TS,T2'.T = T2 ∧ TabsP T T2' ∧ E0 = setE E "" (.tr T2' false)) fl E' := by
 obtain ⟨rfl,T',f',g,rfl⟩ := q
 exact W_nil ⟨rfl,T',g.e,g.tb,by rw [g.f]⟩
theorem lss_ok {C : Cx} (hC : Kn C) : ∀ (f : Nat) (T : TS) (i : Nat) (T1 : List PNd),lssT f T.T i = some T1 → Meth C f true 122 [.nd i] T false (LssG T T1)
 | 0,T,i,T1,h => none_some h
 | f + 1,T,i,T1,h => by
  refine byG fun G9 k9 => ?_
  obtain ⟨n,hn,h⟩ := bindE' h
  obtain ⟨p,hp,h⟩ := bindE' h
  obtain ⟨c,hc,h⟩ := bindE' h
  obtain ⟨np,hnp,h⟩ := bindE' h
  obtain ⟨t0,ht0,h⟩ := bindE' h
  obtain ⟨r,hr,h⟩ := bindE' h
  refine k9 ?_
  clear k9 G9
  dsimp only at h
  obtain ⟨fd,hF,hb⟩ := fn_lss hC
  refine meth_run hF hC.gb (fun ws hl => ?_) rfl rfl ?_
  ·obtain ⟨a,b,rfl⟩ := len2 hl; exact hb a b
  refine W_s (WS_set rfl rfl (r_head (hC.at (at_zero _)) rfl (n_val rfl) rfl) fun _ => rfl) ?_
  refine W_s (WS_set rfl rfl (r_slot (v := .nd p) (hC.sl (slot_par _)) rfl (n_val rfl) hn (congrArg (some ∘ refN) hp)) fun _ => rfl) ?_
  refine W_s (WS_set rfl rfl (r_slot (v := .nd t0) (hC.sl (slot_lss _)) rfl (n_val rfl) hnp (congrArg (some ∘ refN) ht0)) fun _ => rfl) ?_
  have hlt : i < T.T.length := (List.getElem?_eq_some_iff.mp hn).1
  generalize hE3 : setE (setE (setE (initE ["self","state"] [.kt,.nd i]) "" (.tr T false)) "zero_state" (.val (.nd 0))) "parent" (.val (.nd p)) = E3
  have g1 : E3 "" = some (.tr T false) := by rw [← hE3]; rfl
  have g2 : E3 "state" = some (.val (.nd i)) := by rw [← hE3]; rfl
  have g3 : E3 "zero_state" = some (.val (.nd 0)) := by rw [← hE3]; rfl
  have g4 : E3 "self" = some (.val .kt) := by rw [← hE3]; rfl
  let T1' : TS := ⟨T.T.set i { n with lss := some r },T.ob,T.cn⟩
  -- the loop
  refine W_sx (F := fun t : Nat => setE (setE E3 "traversed" (.val (.nd t))) "" (.tr T1' false)) (WS_while (fun k E => ∃ t,trav T.T i c k t = some r ∧ E = setE E3 "traversed" (.val (.nd t))) f ⟨t0,hr,rfl⟩ ?loop) fun t => ?rest
  case loop =>
   rintro m E ⟨t,ht,rfl⟩
   refine .inr ?_
   cases m with
   | zero => cases ht
   | succ m =>
    refine ⟨m,rfl,.plain (d_of r_bool) rfl,?_⟩
    obtain ⟨nt,hnt,ht⟩ := bindE' ht
    let Et := setE E3 "traversed" (.val (.nd t))
    have eT : Et "" = some (.tr T false) := g1
    have esym : ∀ p1 p2,Ex ⟨C,f,mNm 2 9,true,.meth⟩ Et (.Attribute (.Name "state" p1) "symbol" p2) (.dat (.int c)) := fun p1 p2 => r_slot (hC.sl (slot_sym _)) eT (n_val g2) hn (congrArg (some ∘ symN) hc)
    have etab : ∀ p1 p2,Ex ⟨C,f,mNm 2 9,true,.meth⟩ Et (.Attribute (.Name "traversed" p1) "transitions" p2) (.tab t) := fun p1 p2 => r_slot (hC.sl (slot_tr _)) eT (n_val rfl) hnt rfl
    -- the test and what it says
    have key : ∃ b : Bool,(∀ p1 p2 p3 p4 p5 p6 p7 p8 p9 q1 q2 q3 q4,Xt ⟨C,f,mNm 2 9,true,.meth⟩ Et (.BoolOp .And [.Compare (.Attribute (.Name "state" p1) "symbol" p2) [.In] [.Attribute (.Name "traversed" p3) "transitions" p4] p5,.Compare (.Subscript (.Attribute (.Name "traversed" p6) "transitions" p7) (.Attribute (.Name "state" p8) "symbol" p9) q1) [.IsNot] [.Name "state" q2] q3] q4) b) ∧
      (b = true → lookI c nt.tr = some r) ∧ (b = false → (if t = 0 then some 0 else nt.lss.bind (trav T.T i c m)) = some r) := by
     cases hl : lookI c nt.tr with
     | none =>
      rw [hl] at ht
      refine ⟨false,fun p1 p2 p3 p4 p5 p6 p7 p8 p9 q1 q2 q3 q4 => ?_,nofun,fun _ => ht⟩
      have := t_in (p := p5) eT (esym p1 p2) (etab p3 p4) hnt rfl
      rw [hl] at this
      exact t_and (c := true) this nofun
     | some j =>
      rw [hl] at ht
      refine ⟨!decide (j = i),fun p1 p2 p3 p4 p5 p6 p7 p8 p9 q1 q2 q3 q4 => ?_,fun e => ?_,fun e => ?_⟩
      ·have := t_in (p := p5) eT (esym p1 p2) (etab p3 p4) hnt rfl
       rw [hl] at this
       have h2 := t_and (p := q4) this fun _ => t_and (p := q4) (t_isNot (p := q3) eT (r_sub (pos := q1) eT (etab p6 p7) (esym p8 p9) hnt hl rfl) (n_val (x := "state") (p := q2) (v := .nd i) g2) (.nd j i) rfl) fun _ => t_and_nil
       simpa using h2
      ·have e : j ≠ i := by simpa using e
       dsimp only at ht
       rw [if_pos e] at ht; exact ht
      ·have e : j = i := by simpa using e
       dsimp only at ht
       rw [if_neg (fun q => q e)] at ht; exact ht
    refine byG fun G9 k9 => ?_
    obtain ⟨b,hb,hb1,hb2⟩ := key
    refine k9 ?_
    clear k9 G9
    refine W_cons (W_if (hb _ _ _ _ _ _ _ _ _ _ _ _ _) ?_)
    cases b with
    | true =>
     refine W_s (WS_slot (hC.sl (slot_lss _)) ng eT (n_val g2) (r_sub eT (etab _ _) (esym _ _) hnt (hb1 rfl) rfl) hn (.lss r)) ?_
     exact W_cons (W_brk ⟨rfl,t,rfl⟩)
    | false =>
     have ht := hb2 rfl
     refine W_cons (W_if (t_is (p := _) eT (n_val rfl) (n_val g3) (.nd t 0) rfl) ?_)
     by_cases h0 : t = 0
     ·rw [if_pos h0] at ht
      rw [decide_eq_true h0]
      refine W_s (WS_slot (hC.sl (slot_lss _)) ng eT (n_val g2) (n_val (g3.trans (congrArg (fun k => some (Ent.val (.nd k))) (Option.some.inj ht)))) hn (.lss r)) ?_
      exact W_cons (W_brk ⟨rfl,t,rfl⟩)
     ·rw [if_neg h0] at ht
      obtain ⟨l,hl,ht⟩ := bindE' ht
      rw [decide_eq_false h0]
      refine W_s (WS_set rfl rfl (r_slot (v := .nd l) (hC.sl (slot_lss _)) eT (n_val rfl) hnt (congrArg (some ∘ refN) hl)) fun _ => rfl) ?_
      exact W_nil (W_nil (W_nil ⟨l,ht,setE_same ..⟩))
  case rest =>
   have hT1i : T1'.T[i]? = some { n with lss := some r } := List.getElem?_set_self hlt
   have tb1 : TabsP T T1' := .slot hn rfl
   refine W_s (WS_set rfl rfl (r_slot (v := .nd r) (T := T1') (fin := false) (hC.sl (slot_lss _)) rfl (n_val g2) hT1i rfl) fun _ => rfl) ?_
   refine W_cons (W_if (t_is (T := T1') (fin := false) (p := _) rfl (n_val rfl) (n_val g3) (.nd r 0) rfl) ?_)
   by_cases hr0 : r = 0
   ·rw [decide_eq_true hr0]
    rw [if_pos hr0] at h
    exact W_cons (W_ret0 ⟨rfl,T1',false,⟨rfl,Option.some.inj h,tb1⟩,rfl⟩)
   rw [decide_eq_false hr0]
   rw [if_neg hr0] at h
   refine byG fun G9 k9 => ?_
   obtain ⟨nr,hnr,h⟩ := bindE' h
   obtain ⟨T2,hT2,h⟩ := bindE' h
   obtain ⟨n2,hn2,h⟩ := bindE' h
   obtain ⟨nr2,hnr2,h⟩ := bindE' h
   refine k9 ?_
   clear k9 G9
   split at h
   ·rename_i hcond
    have hri := hcond.1
    have hz := hcond.2
    have hT1 := Option.some.inj h
    clear h
    refine W_nil ?_
    generalize hE5 : setE (setE (setE E3 "traversed" (.val (.nd t))) "" (.tr T1' false)) "suffix" (.val (.nd r)) = E5
    have e1 : E5 "" = some (.tr T1' false) := by rw [← hE5]; rfl
    have e2 : E5 "state" = some (.val (.nd i)) := by rw [← hE5]; exact g2
    have e3 : E5 "suffix" = some (.val (.nd r)) := by rw [← hE5]; rfl
    have e4 : E5 "self" = some (.val .kt) := by rw [← hE5]; exact g4
    refine W_one (I := fun E => ∃ T2' : TS,T2'.T = T2 ∧ TabsP T1' T2' ∧ E = setE E5 "" (.tr T2' false)) (W_if (t_is (a := refN nr.lss) (b := .dat .none) (p := _) e1 (r_slot (hC.sl (slot_lss _)) e1 (n_val e3) hnr rfl) r_none (isV_ref _) rfl) ?_) ?_
    ·cases hl : nr.lss with
     | some l =>
      rw [hl] at hT2
      exact W_nil ⟨rfl,T1',Option.some.inj hT2,.refl _,(setE_id e1).symm⟩
     | none =>
      rw [hl] at hT2
      exact W_cons (WS.mono (WS_meth (lss_ok hC f T1' r T2 hT2) (hC.me (meth_lss _)) ng e1 (n_val e4) (vs_cons (n_val e3) rfl vs_nil) rfl (by decide)) fun fl E' q => lss_call q)
    ·rintro E6 ⟨T2',eT2,tb2,rfl⟩
     have hn2 : T2'.T[i]? = some n2 := eT2 ▸ hn2
     have hnr2 : T2'.T[r]? = some nr2 := eT2 ▸ hnr2
     have hlt2 : i < T2'.T.length := (List.getElem?_eq_some_iff.mp hn2).1
     have tb9 : ∀ T9 : TS,T9.T = T2'.T.set i { n2 with tr := mergeT n2.tr (nr2.tr.take nr2.tr.length) } → T9.T = T2'.T.set i { n2 with tr := mergeT n2.tr nr2.tr } := fun T9 q => by rw [q,List.take_length]
     refine W_one (I := LF T2' i n2 nr2 nr2.tr.length) (WS_forI (T := T2') (fin := false) rfl rfl rfl (r_slot (T := T2') (fin := false) (hC.sl (slot_tr _)) rfl (n_val e3) hnr2 rfl) hnr2 rfl rfl rfl rfl rfl (LF T2' i n2 nr2) ⟨⟨T2',rfl,?_,.refl _⟩,e2⟩ (fun k E ⟨⟨T9,h1,h2,h3⟩,_⟩ => ⟨T9,false,h1,(h3.tb r nr2 nr2 hnr2 (by rw [h2,List.getElem?_set_ne (Ne.symm hri)]; exact hnr2)).2 rfl⟩) (fun k c' j E htr ⟨⟨T9,h1,h2,h3⟩,hst⟩ => ?_) fun E' hI => ⟨rfl,hI⟩) fun E' ⟨⟨T9,h1,h2,h3⟩,_⟩ => W_nil ⟨rfl,T9,false,⟨rfl,(tb9 T9 h2).trans (eT2 ▸ hT1),(tb1.trans tb2).trans h3⟩,h1⟩
     ·rw [List.take_zero]
      obtain ⟨q1,q2⟩ := List.getElem?_eq_some_iff.mp hn2
      show T2'.T = T2'.T.set i n2
      rw [← q2,List.set_getElem_self]
     ·have hi9 : T9.T[i]? = some { n2 with tr := mergeT n2.tr (nr2.tr.take k) } := by rw [h2]; exact List.getElem?_set_self hlt2
      refine W_cons (W_if (t_notIn (n := { n2 with tr := mergeT n2.tr (nr2.tr.take k) }) (p := _) h1 (n_val rfl) (r_slot (hC.sl (slot_tr _)) h1 (n_val hst) hi9 rfl) hi9 rfl) ?_)
      cases hl : lookI c' (mergeT n2.tr (nr2.tr.take k)) with
      | some l => exact W_nil (W_nil ⟨⟨T9,h1,by rw [h2,mergeT_succ htr,hl]; rfl,h3⟩,hst⟩)
      | none =>
       refine W_cons (WS.mono (WS_tab ng h1 (r_slot (hC.sl (slot_tr _)) h1 (n_val hst) hi9 rfl) (n_val rfl) (n_val rfl) hi9 hl (by have := mergeT_take n2.tr nr2.tr k; dsimp only; omega)) fun fl E2 q => ?_)
       obtain ⟨rfl,o,rfl⟩ := q
       refine W_nil (W_nil ⟨⟨_,rfl,?_,h3.trans (.tab hi9)⟩,hst⟩)
       dsimp only
       rw [h2,List.set_set,mergeT_succ htr,hl]
       rfl
   ·cases h
end
section
theorem bindK {α β : Type} {o : Option α} {g : α → Option β} {b : β} {G : Prop} (h : o.bind g = some b) (k : ∀ a,o = some a → g a = some b → G) : G := by
 cases o with
 | none => cases h
 | some a => exact k a rfl h
theorem someK {α : Type} {a b : α} {G : Prop} (h : some a = some b) (k : a = b → G) : G := k (Option.some.inj h)
theorem W_nd {P : Pr} {E : StE} {b : List Stmt} {Q : Fl → StE → Prop} (x : Str) {j : Nat} {T : TS} {fin : Bool} (hx : E x = some (.val (.nd j))) (hT : E "" = some (.tr T fin)) (k : ∀ n,T.T[j]? = some n → W P E b Q) : W P E b Q := fun f z s ok S X => by
 obtain ⟨w,_,a,ha,_⟩ := (S.er _ _ hx).val
 have := (S.er _ _ hT).tree.L.th.len
 exact k _ (List.getElem?_eq_getElem (this ▸ (List.getElem?_eq_some_iff.mp ha).1)) f z s ok S X
inductive LcW (F : Nat) (T : TS) (Te : List PNd) (k : Nat) (E : StE) : Prop
 | mk (proc stk : List Nat) (T1 : TS) (h : lfcT F k proc T1.T stk = some Te) (tb : TabsP T T1) (hl : stk.length ≤ 100001) (e1 : E "" = some (.tr T1 false)) (e2 : E "processed" = some (.nats proc)) (e3 : E "to_process" = some (.nds stk)) (e4 : E "self" = some (.val .kt))
inductive LcV (F st : Nat) (n : PNd) (T1 : TS) (proc : List Nat) (T2 : List PNd) (stk2 : List Nat) (k : Nat) (E : StE) : Prop
 | mk (T' : TS) (stk : List Nat) (h : lfcIn F st n.tr.length proc (n.tr.drop k) T'.T stk = some (T2,stk2)) (tb : TabsP T1 T') (nn : PNd) (hn : T'.T[st]? = some nn) (hl' : nn.tr.length = n.tr.length) (hl : stk.length ≤ 100001) (e1 : E "" = some (.tr T' false)) (e2 : E "processed" = some (.nats proc)) (e3 : E "to_process" = some (.nds stk)) (e4 : E "self" = some (.val .kt))
theorem drop_cons {α : Type} {l : List α} {k : Nat} {a : α} (h : l[k]? = some a) : l.drop k = a :: l.drop (k + 1) := by
 obtain ⟨h1,h2⟩ := List.getElem?_eq_some_iff.mp h
 rw [List.drop_eq_getElem_cons h1,h2]
theorem proc_len {st : Nat} {proc : List Nat} (h : proc.length ≤ 900) : (if st ∈ proc then proc else proc ++ [st]).length ≤ 1000 := by
 split
 ·omega
 ·rw [List.length_append]; simp; omega
theorem lfc_ok {C : Cx} (hC : Kn C) {F D : Nat} {T : TS} {Te : List PNd} (h : lfcT F D [] T.T [0] = some Te) : Meth C (F + 1) true 115 [.nd 0] T false (LssG T Te) := by
 obtain ⟨fd,hF,hb⟩ := fn_lfc hC
 refine meth_run hF hC.gb (fun ws hl => ?_) rfl rfl ?_
 ·obtain ⟨a,b,rfl⟩ := len2 hl; exact hb a b
 refine W_s (WS_newSet rfl rfl rfl) ?_
 refine W_s (WS_newN rfl rfl (n_val rfl) rfl) ?_
 refine W_one (I := fun E => ∃ T',LssG T Te T' false ∧ E "" = some (.tr T' false)) (WS_while (LcW F T Te) D ⟨[],[0],T,h,.refl _,by decide,rfl,rfl,rfl,rfl⟩ fun m E ⟨proc,stk,T1,hm,tb,hl,e1,e2,e3,e4⟩ => ?_) fun E ⟨T',g,e⟩ => W_nil ⟨rfl,T',false,g,e⟩
 cases m with
 | zero => cases hm
 | succ m =>
 cases hst : stk.getLast? with
 | none =>
  have hm := (elim_none hst).symm.trans hm
  have := List.getLast?_eq_none_iff.mp hst
  subst this
  exact .inl ⟨t_list e3 (by decide),rfl,T1,⟨rfl,Option.some.inj hm,tb⟩,e1⟩
 | some st =>
  have hm := (elim_some hst).symm.trans hm
  obtain ⟨ys,rfl⟩ := List.getLast?_eq_some_iff.mp hst
  rw [List.dropLast_concat] at hm
  rw [List.length_append] at hl
  have hl : ys.length + 1 ≤ 100001 := hl
  refine bindK hm fun n hn hm => ?_
  split at hm
  ·rename_i hpl
   refine bindK hm fun q hin hm => ?_
   obtain ⟨T2,stk2⟩ := q
   refine .inr ⟨m,rfl,?_,?_⟩
   ·have h1 : (!(ys ++ [st]).isEmpty) = true := by simp
    exact h1 ▸ t_list e3 (by rw [List.length_append]; exact Nat.lt_of_le_of_lt hl (by decide))
   refine W_s (WS_pop e3 (by decide) (by omega) rfl rfl rfl) ?_
   refine W_s (WS_add (j := st) e2 (by omega) rfl rfl (r_slot (hC.sl (slot_identifier _)) e1 (n_val rfl) hn rfl)) ?_
   have hp := proc_len (st := st) hpl
   refine W_one (I := LcV F st n T1 (if st ∈ proc then proc else proc ++ [st]) T2 stk2 n.tr.length) (WS_forV (T := T1) (fin := false) rfl rfl (Ex.ee (r_slot (hC.sl (slot_tr _)) e1 (n_val rfl) hn rfl)) e1 hn rfl rfl rfl (LcV F st n T1 (if st ∈ proc then proc else proc ++ [st]) T2 stk2) ⟨T1,ys,hin,.refl _,n,hn,rfl,by omega,e1,rfl,rfl,e4⟩
    (fun k E ⟨T',stk,_,tb',nn,hnn,hl',_,e1,_,_,_⟩ => ⟨T',false,e1,(tb'.tb st n nn hn hnn).2 hl'⟩) (fun k c j E htr ⟨T',stk,h',tb',nn,hnn,hl',hsl,e1,e2,e3,e4⟩ => ?_) fun E hI => ⟨rfl,hI⟩) fun E ⟨T',stk,h',tb',nn,hnn,hl',hsl,e1,e2,e3,e4⟩ => ?_
   ·rw [drop_cons htr] at h'
    refine W_nd "child" (j := j) (T := T') (fin := false) rfl e1 fun nj hnj => ?_
    refine W_cons (W_if (t_notInSet (j := j) e2 hp (r_slot (hC.sl (slot_identifier _)) e1 (n_val rfl) hnj rfl)) ?_)
    by_cases hjp : j ∈ (if st ∈ proc then proc else proc ++ [st])
    ·have h' := (if_pos hjp).symm.trans h'
     rw [decide_eq_true hjp]
     exact W_nil (W_nil ⟨T',stk,h',tb',nn,hnn,hl',hsl,e1,e2,e3,e4⟩)
    ·have h' := (if_neg hjp).symm.trans h'
     rw [decide_eq_false hjp]
     refine bindK h' fun T'' hT'' h' => bindK h' fun n'' hn'' h' => ?_
     split at h'
     ·rename_i hc
      refine W_cons (WS.mono (WS_meth (lss_ok hC F T' j T'' hT'') (hC.me (meth_lss _)) ng e1 (n_val e4) (vs_cons (n_val rfl) rfl vs_nil) rfl (by decide)) fun fl E2 q => ?_)
      obtain ⟨rfl,T3,f3,g,rfl⟩ := q
      obtain ⟨rfl,rfl,tb3⟩ := g
      refine W_s (WS_appN e3 (by omega) rfl rfl (n_val rfl)) ?_
      exact W_nil (W_nil ⟨T3,stk ++ [j],h',tb'.trans tb3,n'',hn'',hc.1,by rw [List.length_append]; simp; omega,rfl,e2,rfl,e4⟩)
     ·cases h'
   ·rw [List.drop_length] at h'
    refine someK h' fun q => ?_
    cases q
    exact W_nil ⟨_,_,T',hm,tb.trans tb',hsl,e1,e2,e3,e4⟩
  ·cases hm
end
section
noncomputable def oD (k : List Int) : PyData := .tuple [wordD k,.int k.length]
noncomputable def GT (Te : List PNd) (fl : Bool) (T : TS) (fin : Bool) : Prop := fin = fl ∧ T.T = Te
theorem lenD_word {k : List Int} (h : k.length ≤ 1000) : lenD (wordD k) = some (.int k.length) := by
 unfold lenD wordD itemsOf
 rw [Option.bind_some,List.length_map]
 exact if_pos (decide_eq_true (Nat.lt_of_le_of_lt h (by decide)))
theorem setOuts_at {T : List PNd} {i : Nat} {n : PNd} {l : List (List Int)} (h : T[i]? = some n) : setOuts T i l = T.set i { n with outs := some l } := by
 unfold setOuts; rw [h]
inductive PrO (T : TS) (j : Nat) (proc stk : List Nat) (tot : List (List Int)) (k : Nat) (E : StE) : Prop
 | mk (acc : List (List Int)) (i : Nat) (l : List (List Int)) (h : outsOf T.T k i = some l) (ht : acc ++ l = tot) (e1 : E "" = some (.tr T false)) (e2 : E "processed" = some (.nats proc)) (e3 : E "to_process" = some (.nds stk)) (e4 : E "zero_state" = some (.val (.nd 0))) (e5 : E "child" = some (.val (.nd j))) (e6 : E "outputs" = some (.live (acc.map oD))) (e7 : E "suffix" = some (.val (.nd i)))
inductive PrW (F : Nat) (ob : List Obj) (cn : Nat) (Te : List PNd) (k : Nat) (E : StE) : Prop
 | mk (proc stk : List Nat) (T : List PNd) (h : preT F k proc T stk = some Te) (hl : stk.length ≤ 100001) (e1 : E "" = some (.tr ⟨T,ob,cn⟩ false)) (e2 : E "processed" = some (.nats proc)) (e3 : E "to_process" = some (.nds stk)) (e4 : E "zero_state" = some (.val (.nd 0)))
inductive PrV (F : Nat) (ob : List Obj) (cn : Nat) (tr : List (Int × Nat)) (proc : List Nat) (T2 : List PNd) (stk2 : List Nat) (k : Nat) (E : StE) : Prop
 | mk (stk : List Nat) (T : List PNd) (h : preIn F proc (tr.drop k) T stk = some (T2,stk2)) (hl : stk.length ≤ 100001) (e1 : E "" = some (.tr ⟨T,ob,cn⟩ false)) (e2 : E "processed" = some (.nats proc)) (e3 : E "to_process" = some (.nds stk)) (e4 : E "zero_state" = some (.val (.nd 0)))
theorem pre_ok {C : Cx} (hC : Kn C) {F D : Nat} {T : TS} {Te : List PNd} (h : preT F D [] (setOuts T.T 0 []) [0] = some Te) : Meth C 1 true 108 [] T false (GT Te false) := by
 obtain ⟨fd,hF,hb⟩ := fn_pre hC
 refine meth_run hF hC.gb (fun ws hl => ?_) rfl rfl ?_
 ·obtain ⟨a,rfl⟩ := len1 hl; exact hb a
 refine W_s (WS_set rfl rfl (r_head (hC.at (at_zero _)) rfl (n_val rfl) rfl) fun _ => rfl) ?_
 refine W_nd "zero_state" (j := 0) (T := T) (fin := false) rfl rfl fun n0 hn0 => ?_
 rw [setOuts_at hn0] at h
 refine W_s (WS_slot (fin := false) (hC.sl (slot_outs _)) ng rfl (n_val rfl) (r_tuple vs_nil rfl) hn0 (.outs [])) ?_
 refine W_s (WS_newSet rfl rfl rfl) ?_
 refine W_s (WS_newN rfl rfl (n_val rfl) rfl) ?_
 refine W_one (I := fun E => ∃ T',GT Te false T' false ∧ E "" = some (.tr T' false)) (WS_while (PrW F T.ob T.cn Te) D ⟨[],[0],_,h,by decide,rfl,rfl,rfl,rfl⟩ fun m E ⟨proc,stk,T1,hm,hl,e1,e2,e3,e4⟩ => ?_) fun E ⟨T',g,e⟩ => W_nil ⟨rfl,T',false,g,e⟩
 cases m with
 | zero => cases hm
 | succ m =>
 cases hst : stk.getLast? with
 | none =>
  have hz9 : some T1 = some Te := (elim_none hst).symm.trans hm
  have := List.getLast?_eq_none_iff.mp hst
  subst this
  exact .inl ⟨t_list e3 (by decide),rfl,_,⟨rfl,Option.some.inj hz9⟩,e1⟩
 | some st =>
  have hm := (elim_some hst).symm.trans hm
  obtain ⟨ys,rfl⟩ := List.getLast?_eq_some_iff.mp hst
  rw [List.dropLast_concat] at hm
  rw [List.length_append] at hl
  have hl : ys.length + 1 ≤ 100001 := hl
  refine bindK hm fun n hn hm => ?_
  split at hm
  ·rename_i hpl
   refine bindK hm fun q hin hm => ?_
   obtain ⟨T2,stk2⟩ := q
   refine .inr ⟨m,rfl,?_,?_⟩
   ·have h1 : (!(ys ++ [st]).isEmpty) = true := by simp
    exact h1 ▸ t_list e3 (by rw [List.length_append]; exact Nat.lt_of_le_of_lt hl (by decide))
   refine W_s (WS_pop e3 (by decide) (by omega) rfl rfl rfl) ?_
   refine W_s (WS_add (j := st) e2 (by omega) rfl rfl (r_slot (hC.sl (slot_identifier _)) e1 (n_val rfl) hn rfl)) ?_
   have hp := proc_len (st := st) hpl
   refine W_one (I := PrV F T.ob T.cn n.tr (if st ∈ proc then proc else proc ++ [st]) T2 stk2 n.tr.length) (WS_forV (fin := false) rfl rfl (Ex.ee (r_slot (hC.sl (slot_tr _)) e1 (n_val rfl) hn rfl)) e1 hn rfl rfl rfl (PrV F T.ob T.cn n.tr (if st ∈ proc then proc else proc ++ [st]) T2 stk2) ⟨ys,T1,hin,by omega,e1,rfl,rfl,e4⟩
    (fun k E ⟨stk,T',_,_,e1,_,_,_⟩ => ⟨_,false,e1,rfl⟩) (fun k c j E htr ⟨stk,T',h',hsl,e1,e2,e3,e4⟩ => ?_) fun E hI => ⟨rfl,hI⟩) fun E ⟨stk,T',h',hsl,e1,e2,e3,e4⟩ => ?_
   ·rw [drop_cons htr] at h'
    refine W_nd "child" (j := j) (T := ⟨T',T.ob,T.cn⟩) (fin := false) rfl e1 fun nj hnj => ?_
    refine W_cons (W_if (t_notInSet (j := j) e2 hp (r_slot (hC.sl (slot_identifier _)) e1 (n_val rfl) hnj rfl)) ?_)
    by_cases hjp : j ∈ (if st ∈ proc then proc else proc ++ [st])
    ·have h' := (if_pos hjp).symm.trans h'
     rw [decide_eq_true hjp]
     exact W_nil (W_nil ⟨stk,T',h',hsl,e1,e2,e3,e4⟩)
    ·have h' := (if_neg hjp).symm.trans h'
     rw [decide_eq_false hjp]
     refine bindK h' fun tot ht h' => ?_
     rw [setOuts_at hnj] at h'
     split at h'
     ·rename_i hc
      refine W_s (WS_new rfl rfl (l_list (ds := []) vs_nil rfl) fun _ => rfl) ?_
      refine W_s (WS_set rfl rfl (n_val (x := "child") (v := .nd j) rfl) fun _ => rfl) ?_
      refine W_one (I := fun E => ∃ k,PrO ⟨T',T.ob,T.cn⟩ j (if st ∈ proc then proc else proc ++ [st]) stk tot k E ∧ E "outputs" = some (.live (tot.map oD))) (WS_while (PrO ⟨T',T.ob,T.cn⟩ j (if st ∈ proc then proc else proc ++ [st]) stk tot) F ⟨[],j,tot,ht,rfl,e1,e2,e3,e4,rfl,rfl,rfl⟩ fun m E g => ?_) fun E ⟨_,⟨_,_,_,_,_,e1,e2,e3,e4,e5,_,_⟩,e6⟩ => ?_
      ·obtain ⟨acc,i,l,ho,ht,e1,e2,e3,e4,e5,e6,e7⟩ := id g
       cases m with
       | zero => cases ho
       | succ m =>
       have tst := fun p q1 q2 => t_isNot (P := ⟨C,0,mNm 2 7,true,.meth⟩) (p := p) e1 (n_val (p := q1) e7) (n_val (p := q2) e4) (.nd i 0) rfl
       by_cases hi : i = 0
       ·have ho := (if_pos hi).symm.trans ho
        rw [decide_eq_true hi] at tst
        obtain rfl := Option.some.inj ho
        rw [List.append_nil] at ht
        exact .inl ⟨tst _ _ _,rfl,_,g,ht ▸ e6⟩
       ·have ho := (if_neg hi).symm.trans ho
        rw [decide_eq_false hi] at tst
        refine .inr ⟨m,rfl,tst _ _ _,?_⟩
        refine bindK ho fun ni hni ho => bindK ho fun ls hls ho => bindK ho fun hd hhd ho => ?_
        obtain ⟨l2,hl2,rfl⟩ := Option.map_eq_some_iff.mp ho
        refine W_cons (W_if (.plain (d_of (r_slot (v := .dat (.bool ni.suc)) (hC.sl (slot_suc _)) e1 (n_val e7) hni rfl)) rfl) ?_)
        split at hhd
        ·rename_i hs
         rw [hs]
         refine bindK hhd fun k hk hhd => ?_
         split at hhd
         ·rename_i hk1
          obtain rfl := Option.some.inj hhd
          refine W_s (WS_set rfl rfl (r_slot (v := .dat (wordD k)) (hC.sl (slot_kw _)) e1 (n_val e7) hni (congrArg (some ∘ kwN) hk)) fun _ => rfl) ?_
          refine W_s (WS_app e6 (by rw [List.length_map]; have := hc.2; rw [← ht,List.length_append] at this; omega) rfl rfl (r_tuple (ds := [wordD k,.int k.length]) (vs_cons (n_val rfl) rfl (vs_cons (r_len (d_of (n_val rfl)) rfl rfl (lenD_word hk1)) rfl vs_nil)) rfl)) ?_
          refine W_nil (W_s (WS_set rfl rfl (r_slot (v := .nd ls) (hC.sl (slot_lss _)) e1 (n_val e7) hni (congrArg (some ∘ refN) hls)) fun _ => rfl) ?_)
          exact W_nil ⟨acc ++ [k],ls,l2,hl2,by rw [← ht,List.append_assoc],e1,e2,e3,e4,e5,by rw [List.map_append]; rfl,rfl⟩
         ·cases hhd
        ·rename_i hs
         obtain rfl := Option.some.inj hhd
         rw [eq_false_of_ne_true hs]
         refine W_nil (W_s (WS_set rfl rfl (r_slot (v := .nd ls) (hC.sl (slot_lss _)) e1 (n_val e7) hni (congrArg (some ∘ refN) hls)) fun _ => rfl) ?_)
         exact W_nil ⟨acc,ls,l2,hl2,ht,e1,e2,e3,e4,e5,e6,rfl⟩
      ·refine W_s (WS_slot (hC.sl (slot_outs _)) ng e1 (n_val e5) (r_tup (n_live e6) rfl rfl (by rw [List.length_map]; exact decide_eq_true (Nat.lt_of_le_of_lt hc.2 (by decide)))) hnj (.outs tot)) ?_
       refine W_s (WS_appN e3 (by omega) rfl rfl (n_val e5)) ?_
       exact W_nil (W_nil ⟨stk ++ [j],_,h',by rw [List.length_append]; exact Nat.succ_le_succ hc.1,rfl,e2,rfl,e4⟩)
     ·cases h'
   ·rw [List.drop_length] at h'
    refine someK h' fun q => ?_
    cases q
    exact W_nil ⟨_,_,_,hm,hsl,e1,e2,e3,e4⟩
  ·cases hm
end
section
theorem W_root {P : Pr} {E : StE} {b : List Stmt} {Q : Fl → StE → Prop} {T : TS} {fin : Bool} (hT : E "" = some (.tr T fin)) (k : ∀ n,T.T[0]? = some n → W P E b Q) : W P E b Q := fun f z s ok S X => by
 have L := (S.er _ _ hT).tree.L
 obtain ⟨a,ha,_⟩ := L.z
 exact k _ (List.getElem?_eq_getElem (L.th.len ▸ (List.getElem?_eq_some_iff.mp ha).1)) f z s ok S X
theorem fin_ok {C : Cx} (hC : Kn C) {F D : Nat} {T : TS} {Te : List PNd} (h : finT F D T.T = some Te) : Meth C (F + 2) true 101 [] T false (GT Te true) := by
 obtain ⟨fd,hF,hb⟩ := fn_fin hC
 refine meth_run hF hC.gb (fun ws hl => ?_) rfl rfl ?_
 ·obtain ⟨a,rfl⟩ := len1 hl; exact hb a
 refine W_cons (W_if (.plain (d_of (r_head (fin := false) (hC.at (at_finalized _)) rfl (n_val rfl) rfl)) rfl) ?_)
 refine W_nil (W_root (T := T) (fin := false) rfl fun n0 hn0 => ?_)
 refine bindK h fun T1 h1 h2 => ?_
 unfold lss0 at h1
 rw [hn0] at h1
 refine W_s (WS_slot (fin := false) (hC.sl (slot_lss _)) ng rfl (r_head (fin := false) (hC.at (at_zero _)) rfl (n_val rfl) rfl) (r_head (fin := false) (v := .nd 0) (hC.at (at_zero _)) rfl (n_val rfl) rfl) hn0 (.lss 0)) ?_
 refine W_cons (WS.mono (WS_meth (lfc_ok (T := ⟨_,T.ob,T.cn⟩) hC h1) (hC.me (meth_lfc _)) ng rfl (n_val rfl) (vs_cons (r_head (fin := false) (hC.at (at_zero _)) rfl (n_val rfl) rfl) rfl vs_nil) rfl (by decide)) fun fl E2 q => ?_)
 obtain ⟨rfl,T2,f2,⟨rfl,rfl,_⟩,rfl⟩ := q
 refine W_cons (WS.mono (WS_meth ((pre_ok hC h2).mono (Nat.succ_le_succ (Nat.zero_le _)) fun _ _ => id) (hC.me (meth_pre _)) ng rfl (n_val rfl) vs_nil rfl (by decide)) fun fl E2 q => ?_)
 obtain ⟨rfl,T3,f3,⟨rfl,rfl⟩,rfl⟩ := q
 refine W_s (WS_head (hC.at (at_finalized _)) ng rfl (n_val rfl) r_bool (.fin true)) ?_
 exact W_nil ⟨rfl,T3,true,⟨rfl,rfl⟩,rfl⟩
end
section
structure Raw (P : Pr) (f : Fx) (z : Lc) (s : Shared) (x dx : Addr) (ox : Obj) : Prop where
 hx : s.heap.get? x = some ox
 cls : ox.cls = .ref 34
 dict : ox.dict = some dx
 data : ox.data = .plain
 hd : s.heap.get? dx = some emptyDict
 lo : P.C.lo ≤ dx
 ne : dx ≠ x
 wb : Wb P f x
 lv : z.lv x
 nl : dx ≠ f.env.locals
section
variable {P : Pr} {f : Fx} {z : Lc} {E : StE} {s s' : Shared} {x dx : Addr} {ox : Obj}
theorem Raw.kp {lo : Nat} (r : Raw P f z s x dx ox) (k : Kp lo s s') : Raw P f z s' x dx ox := ⟨k.get r.hx (by rw [r.cls]; nofun),r.cls,r.dict,r.data,k.get r.hd (by nofun),r.lo,r.ne,r.wb,r.lv,r.nl⟩
theorem St.nm {y : Str} {w : Value} {p : Pos} {Q X : Value → Shared → Prop} (S : St P f z E s) (ok : FOk P f) (h : E y = some (.val (.raw w))) (q : Q w s) : wpAny P.C.M f.A (eval (.Name y p) f.env) Q X s := by
 obtain ⟨w',sl,r⟩ := (S.er _ _ h).val
 have r : w' = w := r
 subst r
 exact sl.name ok.ok q
theorem St.raw {s0 : Shared} {attr : Str} {k : Nat} {e : Expr} {v : Value} {p np sp : Pos} {r : List Stmt} {Q : Flow → Shared → Prop} {X : Value → Shared → Prop} (S : St P f z E s) (ok : FOk P f) (R : Raw P f z s x dx ox) (hE : ∀ y e,E y = some e → ∃ v,e = .val v) (h0 : E "self" = some (.val (.raw (.ref x)))) (Sl : SlotIs P.C.K 34 attr k)
  (he : ∀ Q : Value → Shared → Prop,Q v s → wpAny P.C.M f.A (eval e f.env) Q X s0) (h : ∀ s',St P f z E s' → Raw P f z s' x dx (setSl ox k v) → Rest1 x s.heap s'.heap → Md P.C.lo (· = x) s s' → wpAny P.C.M f.A (execs r f.env) Q X s') (hs : swapsWith e (some (.Attribute (.Name "self" np) attr p)) sp.line f.env = pure false := by rfl) :
  wpAny P.C.M f.A (execs (.Assign [.Attribute (.Name "self" np) attr p] e sp :: r) f.env) Q X s0 := by
 refine wpAny_execs_cons (plainObj_wpAny_Assign_Attribute (he _ (S.nm ok h0 ?_)) hs)
 obtain ⟨m,hns⟩ := S.ns
 have xL : x ≠ f.env.locals := by
  rintro q
  obtain ⟨o,_,_,e,d,_⟩ := id hns
  rw [← q,R.hx] at e; obtain rfl := Option.some.inj e; rw [R.data] at d; cases d
 refine set_slot2 S.on hns ok.lo R.hd R.lo R.nl R.ne ⟨R.hx,R.cls,by unfold notCls; rw [R.data],by rw [R.dict]; exact R.hd⟩ R.wb.h₀ xL Sl R.data fun h' tk hx hr => ?_
 have md : Md P.C.lo (· = x) s { s with heap := h',toks := tk } := rest_md hr R.hx (by rw [R.cls]; nofun) ⟨_,hx,by unfold setSl; rw [R.data]; nofun⟩
 have hW : ∀ b,b = x → Wr P f z s b := by
  rintro b rfl
  refine ⟨R.wb,fun o e => ?_⟩
  rw [R.hx] at e; obtain rfl := Option.some.inj e
  exact ⟨(fun _ q => Data.noConfusion (R.data.symm.trans q)),fun _ _ _ => by rw [R.data]; nofun,xL,.inl R.lv,fun _ => by rw [R.data]; nofun⟩
 have S' := S.move md hW (.refl (Wr.stable (z' := z) md hW fun _ => .inl)) (fun y e h => .inl ⟨h,rfl,fun l => (by obtain ⟨v,rfl⟩ := hE y e h; exact l.elim),fun T fin q => (by obtain ⟨v,rfl⟩ := hE y e h; cases q)⟩) S.ij
 exact h _ S' ⟨hx,R.cls,R.dict,R.data,hr _ _ R.ne R.hd,R.lo,R.ne,R.wb,R.lv,R.nl⟩ hr md
end
structure Fresh (C : Cx) (s : Shared) (x dx : Addr) (s' : Shared) (ox : Obj) (tab : Addr) (idv symv parv sucv : Value) : Prop where
 at' : s'.heap.get? x = some ox
 cls : ox.cls = .ref 34
 dict : ox.dict = some dx
 data : ox.data = .plain
 s0 : sl ox 0 = some idv
 s1 : sl ox 1 = some .none
 s2 : sl ox 2 = some .none
 s3 : sl ox 3 = none
 s4 : sl ox 4 = some parv
 s5 : sl ox 5 = some sucv
 s6 : sl ox 6 = some symv
 s7 : sl ox 7 = some (.ref tab)
 tb : s'.heap.get? tab = some { cls := .type "dict",data := .dict #[] }
 new : s.heap.get? tab = none
 lo : C.lo ≤ tab
noncomputable def stPs : List Str := ["self","identifier","symbol","parent","success"]
theorem fn_state {C : Cx} (h : Kn C) : ∃ fd,FnIs C 30 fd stPs (mBd 1 1) (mNm 1 1) ∧ ∃ oc od osl,(KK C.w.params).lookup 30 = some ⟨oc,od,.func fd,osl⟩ := ⟨_,h.fn rfl rfl rfl rfl rfl rfl rfl rfl rfl rfl rfl rfl rfl,_,_,_,rfl⟩
theorem Kn.bd {C : Cx} (h : Kn C) {s : Shared} (on : C.On s) {fd : FuncData} {args : Args} {binds : List (Str × Value)} (p : ∀ S,peek (KK C.w.params) S (bindArgs fd args) = some binds) : BindsTo s fd args binds :=
 kp_binds (K := KK C.w.params) (h.K ▸ C.kin.keeps on) p
theorem okn {ps : List Str} {ws : List Value} (ho : (ps.all okName) = true) {x : Str} {w : Value} (h : (x,w) ∈ ps.zip ws) : okName x = true := List.all_eq_true.mp ho x (List.of_mem_zip h).1
theorem state_init {C : Cx} (hC : Kn C) {R : Nat} {A : Around} {s : Shared} (on : C.On s) (hlo : C.lo ≤ s.heap.objs.size) (M : Rm C (R + 1) A s) {x dx : Addr} {args : Args} {idv symv parv sucv : Value} {Rr : Result → Shared → Prop}
  (hx : s.heap.get? x = some (instObj 34 dx)) (hdx : s.heap.get? dx = some emptyDict) (hdl : C.lo ≤ dx) (hx0 : C.h₀.get? x = none) (hne : dx ≠ x)
  (hbind : ∀ fd oc od osl,(KK C.w.params).lookup 30 = some ⟨oc,od,.func fd,osl⟩ → ∀ S,peek (KK C.w.params) S (bindArgs fd args) = some (stPs.zip [.ref x,idv,symv,parv,sucv]))
  (h : ∀ s' ox tab,Fresh C s x dx s' ox tab idv symv parv sucv → Md C.lo (· = x) s s' → Rr (.ok (.ret .none)) s') : codeAny C.M A (.call (.ref 30) args) Rr s := by
 obtain ⟨fd,hF,oc,od,osl,e0⟩ := fn_state hC
 have rs : All2 (VR C s.heap ⟨fun b => b = x,0,0,[],fun _ => 0⟩) [.raw (.ref x),.raw idv,.raw symv,.raw parv,.raw sucv] [.ref x,idv,symv,parv,sucv] := .cons rfl (.cons rfl (.cons rfl (.cons rfl (.cons rfl .nil))))
 refine code_E (un := false) (kd := .law) (z := ⟨fun b => b = x,0,0,[],fun _ => 0⟩) (Z := fun b => b = x) (E0 := initE stPs [.raw (.ref x),.raw idv,.raw symv,.raw parv,.raw sucv]) hF hC.gb nofun M on hlo (fun b q => ⟨instObj 34 dx,q ▸ hx,nofun⟩) (fun b o q e => ?_) ⟨fun y v hy => ?_,fun y T fin hy => ?_,fun y e hy l => ?_⟩ rfl (hC.bd on (hbind fd _ _ _ e0)) fun f z1 s1 X ok S h1 h2 _ _ k1 hL lv1 => ?_
 ·rw [q,hx] at e; obtain rfl := Option.some.inj e; exact ⟨q,fun _ => nofun,nofun⟩
 ·obtain ⟨v',w,e,hm,r⟩ := initE_get rs y _ hy
  cases e
  exact ⟨w,hm,okn rfl hm,r⟩
 ·obtain ⟨v',w,e,_⟩ := initE_get rs y _ hy; cases e
 ·obtain ⟨v',w,e,_⟩ := initE_get rs y _ hy; subst e; exact l
 have hE : ∀ y e,initE stPs [.raw (.ref x),.raw idv,.raw symv,.raw parv,.raw sucv] y = some e → ∃ v,e = .val v := fun y e hy => let ⟨v,w,q,_⟩ := initE_get rs y e hy; ⟨v,q⟩
 have R1 : Raw ⟨C,R,mNm 1 1,false,.law⟩ f z1 s1 x dx (instObj 34 dx) := ⟨k1.get hx nofun,rfl,rfl,rfl,k1.get hdx nofun,hdl,hne,⟨hx0,.inl (h2 ▸ rfl)⟩,lv1 x rfl,fun q => by rw [q,hL] at hdx; cases hdx⟩
 refine S.raw ok R1 hE rfl (hC.sl (slot_sym _)) (fun Q => S.nm ok rfl) fun s2 S R2 r2 md2 => ?_
 refine S.raw ok R2 hE rfl (hC.sl (slot_identifier _)) (fun Q => S.nm ok rfl) fun s3 S R3 r3 md3 => ?_
 have k3 : Kp C.lo s3 { s3 with heap := s3.heap.push { cls := .type "dict",data := .dict #[] } } := Kp.push'
 generalize htab : s3.heap.objs.size = tab
 have htn : s3.heap.get? tab = none := by rw [← htab]; exact get_none_size _
 have tlo : C.lo ≤ tab := htab ▸ S.size ok
 have htb : (s3.heap.push { cls := .type "dict",data := .dict #[] }).get? tab = some { cls := .type "dict",data := .dict #[] } := by rw [← htab]; exact Heap.get?_push_size _ rfl
 have tx : tab ≠ x := by rintro rfl; have e := R3.hx; rw [htn] at e; cases e
 refine (S.kp k3).raw ok (R3.kp k3) hE rfl (hC.sl (slot_tr _)) (fun Q q => wpAny_Dict_empty (htab ▸ q)) fun s4 S R4 r4 md4 => ?_
 have t4 := r4 tab _ tx htb
 refine S.raw ok R4 hE rfl (hC.sl (slot_par _)) (fun Q => S.nm ok rfl) fun s5 S R5 r5 md5 => ?_
 have t5 := r5 tab _ tx t4
 refine S.raw ok R5 hE rfl (hC.sl (slot_suc _)) (fun Q => S.nm ok rfl) fun s6 S R6 r6 md6 => ?_
 have t6 := r6 tab _ tx t5
 refine S.raw ok R6 hE rfl (hC.sl (slot_kw _)) (fun Q q => wpAny_Constant_none q) fun s7 S R7 r7 md7 => ?_
 have t7 := r7 tab _ tx t6
 refine S.raw ok R7 hE rfl (hC.sl (slot_lss _)) (fun Q q => wpAny_Constant_none q) fun s8 S R8 r8 md8 => ?_
 have t8 := r8 tab _ tx t7
 refine wpAny_execs_nil (h s8 _ tab ⟨R8.hx,rfl,rfl,rfl,?_,?_,?_,?_,?_,?_,?_,?_,t8,?_,?_⟩ (k1.md.trans (md2.trans (md3.trans (k3.md.trans (md4.trans (md5.trans (md6.trans (md7.trans md8)))))))))
 all_goals try (simp [sl_setSl]; done)
 ·simp [sl_setSl]; rfl
 ·cases e : s.heap.get? tab with
  | none => rfl
  | some o =>
   obtain ⟨o1,e1,_⟩ := k1.heap tab o e
   have e2 := r2 tab o1 tx e1
   have e3 := r3 tab o1 tx e2
   rw [htn] at e3; cases e3
 ·exact tlo
theorem Rm.tc {C : Cx} {R : Nat} {A : Around} {s : Shared} {c : Addr} {pos : List Value} {kw : List (Str × Value)} (M : Rm C (R + 1) A s) : Rm C R (A.under (.builtin "type.__call__" ⟨.ref c :: pos,kw⟩)) s := by
 refine ⟨?_,?_,M.fr⟩
 ·show A.depth + 1 + R < _; have := M.depth; omega
 ·show A.units + 1 + 10 * R + 200 < _; have := M.units; omega
theorem new_state {C : Cx} (hC : Kn C) {R : Nat} {A : Around} {s : Shared} {X : Value → Shared → Prop} (on : C.On s) (hlo : C.lo ≤ s.heap.objs.size) (M : Rm C (R + 2) A s) {pos : List Value} {kw : List (Str × Value)} {idv symv parv sucv : Value} {Q : Value → Shared → Prop}
  (hbind : ∀ x fd oc od osl,(KK C.w.params).lookup 30 = some ⟨oc,od,.func fd,osl⟩ → ∀ S,peek (KK C.w.params) S (bindArgs fd ⟨.ref x :: pos,kw⟩) = some (stPs.zip [.ref x,idv,symv,parv,sucv]))
  (h : ∀ s' x dx ox tab,Fresh C s x dx s' ox tab idv symv parv sucv → Kp C.lo s s' → s.heap.get? x = none → s.heap.get? dx = none → C.lo ≤ x → C.lo ≤ dx → s'.heap.get? dx = some emptyDict → dx ≠ x → tab ≠ x → tab ≠ dx → Q (.ref x) s') :
  wpAny C.M A (call (.ref 34) pos kw) Q X s := by
 refine wpAny_call ?_
 obtain ⟨hh,g,d,t,os⟩ := s
 have XX : (KK C.w.params).In hh := hC.K ▸ C.kin.keeps on
 refine make_core (makes_of XX (C := 34) rfl) (looks_findIn XX (rfl : findIn (KK C.w.params) (.ref 34) "__init__" = some (some (.ref 30)))) (fun self => bind_fn XX self rfl) (.inl rfl) ?_
 have kp : Kp C.lo (⟨hh,g,d,t,os⟩ : Shared) ⟨(hh.push emptyDict).push (instObj 34 hh.objs.size),g,d,t,os⟩ := Kp.of_keep (s := ⟨hh,g,d,t,os⟩) (tk := t) fun b o e => Heap.get?_push_of_some _ (Heap.get?_push_of_some _ e)
 have hsz : (hh.push emptyDict).objs.size = hh.objs.size + 1 := Heap.size_push ..
 have ex : ((hh.push emptyDict).push (instObj 34 hh.objs.size)).get? (hh.objs.size + 1) = some (instObj 34 hh.objs.size) := by rw [← hsz]; exact Heap.get?_push_size _ rfl
 have ed : ((hh.push emptyDict).push (instObj 34 hh.objs.size)).get? hh.objs.size = some emptyDict := Heap.get?_push_of_some _ (Heap.get?_push_size _ rfl)
 have nx : hh.get? (hh.objs.size + 1) = none := Heap.get?_none_of_le (Nat.le_succ _)
 have nd : hh.get? hh.objs.size = none := get_none_size _
 have hlo' : C.lo ≤ hh.objs.size := hlo
 have hne : hh.objs.size ≠ hh.objs.size + 1 := Nat.ne_of_lt (Nat.lt_succ_self _)
 refine state_init (R := R) hC (on.kp kp) (by show C.lo ≤ ((hh.push emptyDict).push _).objs.size; rw [Heap.size_push,hsz]; exact Nat.le_succ_of_le (Nat.le_succ_of_le hlo')) ((M.kp kp).tc) ex ed hlo' (On_none on nx) hne (hbind _) fun s' ox tab F md => ?_
 have ed' : s'.heap.get? hh.objs.size = some emptyDict := by
  obtain ⟨o',e',l⟩ := md.heap _ _ ed hne
  rw [l.eq (by nofun)] at e'; exact e'
 have tn := F.new
 have tx : tab ≠ hh.objs.size + 1 := by rintro rfl; rw [ex] at tn; cases tn
 have td : tab ≠ hh.objs.size := by rintro rfl; rw [ed] at tn; cases tn
 have tn' : hh.get? tab = none := by
  cases e : hh.get? tab with
  | none => rfl
  | some o => have := Heap.get?_push_of_some (instObj 34 hh.objs.size) (Heap.get?_push_of_some emptyDict e); rw [tn] at this; cases this
 refine ⟨rfl,h s' _ _ ox tab ⟨F.at',F.cls,F.dict,F.data,F.s0,F.s1,F.s2,F.s3,F.s4,F.s5,F.s6,F.s7,F.tb,tn',F.lo⟩ (Md.kp kp md fun b o e q => ?_) nx nd (Nat.le_succ_of_le hlo') hlo' ed' hne tx td⟩
 subst q; rw [nx] at e; cases e
end
section
section
variable {C : Cx} {R : Nat} {nm : Nm} {un un' : Bool} {kd : Kd} {A A' : Around} {env : Env} {own cl : List (Str × Addr)} {s₀ s : Shared} {lv₀ Z lvc : Addr → Prop} {zb z : Lc} {E : StE}
theorem EA.as {s₀' : Shared} (hs : s₀'.heap = s₀.heap) {h : Heap} {x : Str} {e : Ent} (r : EA ⟨C,R,nm,un,kd⟩ ⟨A,env,own,cl,s₀,lv₀,Z,lvc,zb⟩ z h x e) : EA ⟨C,R,nm,un',kd⟩ ⟨A',env,own,cl,s₀',lv₀,Z,lvc,zb⟩ z h x e := by
 have wb : ∀ {a},Wb ⟨C,R,nm,un,kd⟩ ⟨A,env,own,cl,s₀,lv₀,Z,lvc,zb⟩ a → Wb ⟨C,R,nm,un',kd⟩ ⟨A',env,own,cl,s₀',lv₀,Z,lvc,zb⟩ a := fun w => ⟨w.h₀,w.z.imp id fun q => (congrArg (Heap.get? · _) hs).trans q⟩
 cases r with
 | slot w sl r =>
  refine .slot w sl ?_
  have : ∀ e : Ent,e.isL → EV ⟨C,R,nm,un,kd⟩ ⟨A,env,own,cl,s₀,lv₀,Z,lvc,zb⟩ z h x e w → EV ⟨C,R,nm,un',kd⟩ ⟨A',env,own,cl,s₀',lv₀,Z,lvc,zb⟩ z h x e w := fun e l r => by
   refine byG fun G9 k9 => ?_
   obtain ⟨r1,r2,r3,o,r4,r5⟩ := r.live l
   refine k9 ?_
   clear k9 G9
   exact .of l ⟨r1,r2,⟨wb r3.toWb,r3.nc,r3.nl,r3.lo⟩,o,r4,r5⟩
  cases e with
  | val v => exact r
  | tr T fin => exact r
  | live l => exact this _ trivial r
  | nds l => exact this _ trivial r
  | nats l => exact this _ trivial r
  | dic l => exact this _ trivial r
 | tr k t => exact .tr k ⟨t.L,t.ob,t.nl,fun hf b p => ⟨(t.wr hf b p).1,wb (t.wr hf b p).2⟩,t.nc,t.lc⟩
theorem St.as (d : A'.depth = A.depth) (u : A'.units = A.units) (fr : A'.frames = A.frames) (S : St ⟨C,R,nm,un,kd⟩ ⟨A,env,own,cl,s₀,lv₀,Z,lvc,zb⟩ z E s) : St ⟨C,R,nm,un',kd⟩ ⟨A',env,own,cl,s₀,lv₀,Z,lvc,zb⟩ z E s :=
 ⟨S.on,⟨by rw [d]; exact S.rm.depth,by rw [u]; exact S.rm.units,by rw [fr]; exact S.rm.fr⟩,S.md,S.lt,S.lb,S.ll,S.lu,S.ns,S.oc,fun x e h => (S.er x e h).as rfl,S.ij,S.zt⟩
theorem FOk.as (fr : A'.frames = A.frames) (ok : FOk ⟨C,R,nm,un,kd⟩ ⟨A,env,own,cl,s₀,lv₀,Z,lvc,zb⟩) : FOk ⟨C,R,nm,false,kd⟩ ⟨A',env,own,cl,s₀,lv₀,Z,lvc,zb⟩ :=
 ⟨ok.ok,ok.st,ok.gl,ok.cf,ok.ce,ok.ap,ok.ot,ok.lo,⟨ok.wl.h₀,ok.wl.z⟩,fun x c h => ⟨(ok.wo x c h).h₀,(ok.wo x c h).z⟩,ok.zl,nofun,ok.gb,fun h => ⟨(ok.tp h).1,let ⟨l,hl⟩ := (ok.tp h).2; ⟨l,fr.trans hl⟩⟩⟩
end
section
variable {P : Pr} {f : Fx} {z : Lc} {E : StE} {s : Shared}
theorem St.caught {e : Addr} {X : String} {h' : Heap} {tk : Nat} {x : Str} {np pos : Pos} {b₀ : Stmt} {suite : List Stmt} {rest : List ExceptHandler} {Q : Flow → Shared → Prop} {XX : Value → Shared → Prop} (S : St P f z E s) (ok : FOk P f) (hm : P.kd = .meth) (N : Heap.NewExc s.heap h' e X)
  (hx : isGl P.names x = true) (hn : isBn x = true) (hb : bootBuiltins x = some (.type X)) (hne : x ≠ "__name__")
  (hexc : isSubtype (.type X) (.type "BaseException") = pure true) (hnt : isSubtype (.type ((Manifest.find? X).elim "type" fun y => y.metatype)) (.type "tuple") = pure false) (hsub : isSubtype (.type X) (.type X) = pure true)
  (h : ∀ s2 Ex,Kp P.C.lo s s2 → wpAny P.C.M (f.A.mark (some (.ref e))) (execs (b₀ :: suite) f.env) Q Ex s2) :
  wpAny P.C.M f.A (noteFrame (.ref e) f.env) (fun _ s₂ => wpAny P.C.M f.A (setFlight (.ref e) none) (fun _ s₃ => wpAny P.C.M f.A (handleBy (.ref e) f.env (.ExceptHandler (some (.Name x np)) none (b₀ :: suite) pos :: rest)) Q XX s₃) XX s₂) XX { s with heap := h',toks := tk } := by
 refine byG fun G9 k9 => ?_
 obtain ⟨fm,l,hl⟩ := ok.tp hm
 obtain ⟨l',hl',hfr⟩ := S.rm.fr
 refine k9 ?_
 clear k9 G9
 rw [hl] at hl'; cases hl'
 refine byG fun G9 k9 => ?_
 obtain ⟨ob,t,he,hcls,hdat⟩ := N.there
 refine k9 ?_
 clear k9 G9
 have kp : Kp P.C.lo s { s with heap := h',toks := tk } := Kp.of_keep N.keeps
 let Fs := (f.env :: l).filterMap (·.frame)
 have hfsd : ∀ b ∈ Fs,∀ o,s.heap.get? b = some o → o.cls = .type "frame" ∧ P.C.lo ≤ b := by
  intro b hb o eo
  refine byG fun G9 k9 => ?_
  obtain ⟨ev,hev,hf⟩ := List.mem_filterMap.mp hb
  obtain ⟨h1,o',_,_,e',c',_⟩ := hfr.2 ev hev b hf
  refine k9 ?_
  clear k9 G9
  rw [eo] at e'; cases e'
  exact ⟨c',h1⟩
 let base := hideAll s.heap Fs
 have hbs : ∀ b o,base.get? b = some o → s.heap.get? b = some o := fun b o q => of_hideAll _ q
 have hin : ∀ ev ∈ (f.env :: l),∀ b,ev.frame = some b → b ∈ Fs := fun ev hev b hb => List.mem_filterMap.mpr ⟨ev,hev,hb⟩
 have ff : h'.FunFrames base (f.env :: l) := (funFrames_hide hfr.1 hin).of_keeps fun b o hb _ => ⟨o,N.keeps b o hb,rfl⟩
 have hen : base.get? e = none := by
  cases q : base.get? e with
  | none => rfl
  | some o => have := hbs e o q; rw [N.new] at this; cases this
 unfold noteFrame
 simp only [fm]
 refine wpAny_bind (wpAny_field he hdat (x := .none) rfl ?_)
 rw [if_neg (by decide)]
 refine wpAny_newEntry (base := base) hl ff fm he (fun b o q => N.keeps b o (hbs b o q)) hen hdat (by simp) fun h2 HL => ?_
 refine byG fun G9 k9 => ?_
 obtain ⟨k1,k2,⟨oe,vs,T,oT,ts,te,tc,td,t1,tb,tne,tT,tdT,t3⟩,k4⟩ := HL
 refine k9 ?_
 clear k9 G9
 have kp2 : Kp P.C.lo s { s with heap := h2,toks := tk } := by
  refine ⟨fun b o q => ?_,rfl,GKeep.refl _⟩
  by_cases hb : b ∈ Fs
  ·refine byG fun G9 k9 => ?_
   obtain ⟨c,hlo⟩ := hfsd b hb o q
   obtain ⟨ev,hev,hf⟩ := List.mem_filterMap.mp hb
   obtain ⟨_,o',es,ep,e',c',d'⟩ := hfr.2 ev hev b hf
   refine k9 ?_
   clear k9 G9
   rw [q] at e'; cases e'
   obtain ⟨sl,hs⟩ := k4 b o (N.keeps b o q) (by rw [d']; simp)
   exact ⟨_,hs,.inr ⟨hlo,c,rfl,rfl,rfl⟩⟩
  ·exact ⟨o,k1 b o (hideAll_get _ q hb),.inl rfl⟩
 refine wpAny_handleBy_builtin (X := X) (T := X) (b := true) hexc hnt hsub ?_
 obtain ⟨g1,g2⟩ := gl_kind ok hx
 refine name_builtin (S.on.kp kp2) ok.ok g1 (ok.gb x hn) hb hne g2 ⟨rfl,⟨oe,te,tc.trans hcls⟩,?_⟩
 simp only [if_true]
 refine wpAny_setFlight_none te td t1 tT tdT (Array.getElem?_eq_some_iff.mp t3).1 ?_
 have kp3 : Kp P.C.lo s { s with heap := h2.update T (Obj.mapFields (·.setIfInBounds 3 .none)),toks := tk } := by
  have hTs : s.heap.get? T = none := by
   cases q : s.heap.get? T with
   | none => rfl
   | some o =>
    by_cases hb : T ∈ Fs
    ·obtain ⟨ev,hev,hf⟩ := List.mem_filterMap.mp hb
     obtain ⟨_,o',es,ep,e',c',d'⟩ := hfr.2 ev hev T hf
     obtain ⟨sl,hs⟩ := k4 T o' (N.keeps T o' e') (by rw [d']; simp)
     rw [tT] at hs; obtain rfl := Option.some.inj hs
     rw [tdT] at d'; cases d'
    ·have := hideAll_get Fs q hb
     rw [tb] at this; cases this
  refine ⟨fun b o q => ?_,rfl,GKeep.refl _⟩
  obtain ⟨o',e',lk⟩ := kp2.heap b o q
  exact ⟨o',(Heap.get?_update_other _ _ (by rintro rfl; rw [hTs] at q; cases q)).trans e',lk⟩
 exact h _ _ kp3
end
theorem WS_tryKey {C : Cx} {R : Nat} {nm : Nm} {E : StE} {T : TS} {fin : Bool} {i : Nat} {n : PNd} {c : Int} {x : Str} {e1 e2 : Expr} {p1 p5 p6 p7 v3 tp : Pos} {b₀ : Stmt} {suite : List Stmt} {Q : Fl → StE → Prop} (hT : E "" = some (.tr T fin)) (h1 : Ex ⟨C,R,nm,true,.meth⟩ E e1 (.tab i)) (h2 : Ex ⟨C,R,nm,true,.meth⟩ E e2 (.dat (.int c))) (hn : T.T[i]? = some n) (hs : notSlice e2 = true)
  (hx : isLC nm x = true) (ho : okName x = true) (hg : isGl nm "KeyError" = true) (hsome : ∀ j,lookI c n.tr = some j → Q .next (setE E x (.val (.nd j)))) (hnone : lookI c n.tr = none → W ⟨C,R,nm,false,.meth⟩ E (b₀ :: suite) Q) (hsw : ∀ env,swapsWith (.Subscript e1 e2 p5) (some (.Name x p1)) p6.line env = pure false := by intro _; rfl) :
  WS ⟨C,R,nm,true,.meth⟩ E (.Try [.Assign [.Name x p1] (.Subscript e1 e2 p5) p6] [.ExceptHandler (some (.Name "KeyError" p7)) none (b₀ :: suite) v3] [] [] tp) Q := fun f z s ok S X => by
 refine wpAny_Try_except (wpAny_execs_cons ?_)
 refine wpAny_Assign_Name (Subscript_ (h1.two h2 ok S fun vo vi s' k ro ri => ?_)) (hsw f.env)
 have S' := S.kp k
 refine byG fun G9 k9 => ?_
 obtain ⟨t,rfl⟩ := Rd.int_inv ri
 obtain ⟨a,kvs,rfl,_,hd,al,hsys⟩ := (S'.er _ _ hT).tree.tab hn ro
 obtain ⟨tv1,tv2⟩ := tab_value (c := c) al
 obtain ⟨o0,_,_,e0,xd0,_⟩ := id hd
 refine k9 ?_
 clear k9 G9
 cases hl : lookI c n.tr with
 | some j =>
  obtain ⟨b,hb,hv⟩ := tv1 j hl
  exact tail_any (T := "dict") (id := "dict.__getitem__") (ops := [_,_]) ⟨o0,e0,xd0.1⟩ rfl (wpAny_getItem_of intKey hd.mapOf hv ((S'.kp Kp.tok).store ok hx ho (v := .nd j) ⟨b,hb,rfl⟩ fun s2 S2 _ _ => wpAny_execs_nil (wpAny_execs_nil ⟨.next,_,z,S2,rfl,hsome j hl⟩))) (subscripted_plain hs _ _)
 | none =>
  refine tail_any (T := "dict") (id := "dict.__getitem__") (ops := [_,_]) ⟨o0,e0,xd0.1⟩ rfl (wpAny_getItem_missing_of intKey hsys (ok.un rfl) hd.mapOf (tv2 hl) fun h' e N => ?_) (subscripted_plain hs _ _)
  refine S'.caught ok rfl N hg rfl rfl (by decide) (by rw [isSubtype_type]; kernel_rfl) (by rw [isSubtype_type]; kernel_rfl) (by rw [isSubtype_type]; kernel_rfl) fun s2 Ex k2 => ?_
  have S2 := S'.kp k2
  obtain ⟨A,env,own,cl,s₀,lv₀,Z,lvc,zb⟩ := f
  refine wpAny_mono (hnone hl ⟨A.mark (some (.ref e)),env,own,cl,s₀,lv₀,Z,lvc,zb⟩ z s2 (FOk.as (A := A) (un := true) rfl ok) (St.as (A := A) (un := true) rfl rfl rfl S2) Ex) (fun fw s3 ⟨fl,E',z',S3,hf,q⟩ => ⟨fl,E',z',St.as (A := A.mark (some (.ref e))) (un := false) rfl rfl rfl S3,?_,q⟩) fun _ _ => id
  exact hf
end
section
theorem adAll_app {ad : List Ad} {a : Ad} : adAll (ad ++ [a]) = adAll ad ++ [a.adr,a.dct,a.tab] := by unfold adAll; rw [List.flatMap_append]; rfl
theorem new3 {h : Heap} {ad : List Ad} {x d t b : Addr} (hx : h.get? x = none) (hd : h.get? d = none) (ht : h.get? t = none) (hb : b ∈ adAll (ad ++ [⟨x,d,t⟩])) : b ∈ adAll ad ∨ h.get? b = none := by
 rw [adAll_app] at hb
 rcases List.mem_append.mp hb with q | q
 ·exact .inl q
 ·simp only [List.mem_cons,List.not_mem_nil,or_false] at q
  rcases q with rfl | rfl | rfl
  ·exact .inr hx
  ·exact .inr hd
  ·exact .inr ht
theorem tab_new {C : Cx} {h : Heap} {ad : List Ad} {tab : Addr} (e0 : h.get? tab = some { cls := .type "dict",data := .dict #[] }) : TabIs C h ad [] tab := by
 have hn := Heap.DictOf.new (knd := intKind C.prog C.w) h
 obtain ⟨o,es,ep,e,r⟩ := hn
 rw [Heap.get?_push_size _ rfl] at e
 obtain rfl := Option.some.inj e
 exact ⟨[],⟨_,es,ep,e0,r⟩,.nil⟩
theorem WS_state {C : Cx} (hC : Kn C) {R : Nat} {nm : Nm} {un : Bool} {E : StE} {T : TS} {fin : Bool} {i : Nat} {c : Int} {x : Str} {e0 e1 e2 : Expr} {xp fp q1 q2 cp sp : Pos} (hx : isLC nm x = true) (ho : okName x = true) (hg : isGl nm "State" = true) (hT : E "" = some (.tr T fin)) (hs0 : noStar e0 = true)
  (h0 : Ex ⟨C,R + 2,nm,un,.meth⟩ E e0 (.dat (.int T.cn))) (h1 : Ex ⟨C,R + 2,nm,un,.meth⟩ E e1 (.nd i)) (h2 : Ex ⟨C,R + 2,nm,un,.meth⟩ E e2 (.dat (.int c))) (hcn : T.cn = T.T.length)
  (hsw : ∀ env,swapsWith (.Call (.Name "State" fp) [e0] [⟨some "parent",e1,q1⟩,⟨some "symbol",e2,q2⟩] cp) (some (.Name x xp)) sp.line env = pure false := by intro _; rfl) :
  WS ⟨C,R + 2,nm,un,.meth⟩ E (.Assign [.Name x xp] (.Call (.Name "State" fp) [e0] [⟨some "parent",e1,q1⟩,⟨some "symbol",e2,q2⟩] cp) sp) fun fl E' => fl = .next ∧ ∃ ob',E' = setE (setE E "" (.tr ⟨T.T ++ [newNd c i],ob',T.cn⟩ fin)) x (.val (.nd T.T.length)) := fun f z s ok S X => by
 refine wpAny_Assign_Name ?_ (hsw f.env)
 have hev : eval (.Call (.Name "State" fp) [e0] [⟨some "parent",e1,q1⟩,⟨some "symbol",e2,q2⟩] cp) f.env = (do callWith cp (← eval (.Name "State" fp) f.env) [] (backTo cp (starEach [e0] f.env)) (backToKw cp (keywordEach [⟨some "parent",e1,q1⟩,⟨some "symbol",e2,q2⟩] f.env))) := rfl
 have he : starEach [e0] f.env = [(false,eval e0 f.env)] := star_cons hs0
 rw [hev]
 obtain ⟨g1,g2⟩ := gl_kind ok hg
 refine wpAny_bind (name_global S.on ok.ok g1 (by show nsIn C.K _ _ = _; rw [hC.K]; rfl) g2 ?_)
 refine callWith_of (P := C.K.In) (by rw [he]; rfl) (keep_in (by rw [hC.K]; rfl)) ?_
 refine evalArgs_kw2 rfl (args_one hs0 ?_) (by rw [he]; rfl)
 refine h0 f z s ok S _ _ fun w0 s1 k1 r0 => ?_
 have S1 := S.kp k1
 refine wpAny_evalAll_cons (wpAny_bind (h1 f z s1 ok S1 _ _ fun w1 s2 k2 r1 => wpAny_bind (wpAny_standAt (wpAny_pure ?_))))
 have S2 := S1.kp k2
 refine wpAny_evalAll_cons (wpAny_bind (h2 f z s2 ok S2 _ _ fun w2 s3 k3 r2 => wpAny_bind (wpAny_standAt (wpAny_pure (wpAny_evalAll_nil ?_)))))
 have S3 := S2.kp k3
 obtain ⟨t0,rfl⟩ := Rd.int_inv r0
 obtain ⟨a,ha,rfl⟩ := r1
 obtain ⟨t2,rfl⟩ := Rd.int_inv r2
 refine ⟨C.kin.keeps S3.on,new_state (R := R) hC S3.on (S3.size ok) S3.rm (idv := .int T.cn t0) (symv := .int c t2) (parv := .ref a.adr) (sucv := .bool false) (fun x fd oc od osl e => by cases e; exact fun _ => rfl) fun s4 x' dxs oxn tab F k4 nx nd lx ld ed4 hxx ht1 ht2 => ?_⟩
 have t := (S3.er _ _ hT).tree
 have L4 : Live C s4.heap z.kt z.dx T z.ad fin := t.L.keep (fun b o p e => by
  obtain ⟨o',e',q⟩ := t.L.ob p
  rw [e] at e'; cases e'
  exact k4.get e q.s.nf) fun b o vs n e cl _ => k4.get e (ne_tf cl)
 have old : ∀ {b : Addr},s3.heap.get? b = none → ¬ PlT z.kt z.dx z.ad b := fun hb p => by
  obtain ⟨o,e,_⟩ := t.L.ob p; rw [hb] at e; cases e
 have ix := old nx
 have id' := old nd
 have it := old F.new
 let a' : Ad := ⟨x',dxs,tab⟩
 have hpar : refV (z.ad ++ [a']) (some i) (.ref a.adr) := ⟨a,by rw [List.getElem?_append_left (List.getElem?_eq_some_iff.mp ha).1]; exact ha,rfl⟩
 have hnd : NdAt C s4.heap (z.ad ++ [a']) T.T.length (newNd c i) a' :=
  ⟨⟨oxn,F.at',F.cls,F.dict,F.data,⟨t0,hcn ▸ F.s0⟩,⟨_,F.s1,rfl⟩,⟨_,F.s2,rfl⟩,F.s3,⟨_,F.s4,hpar⟩,F.s5,⟨_,F.s6,t2,rfl⟩,F.s7⟩,ed4,tab_new F.tb⟩
 have nin : ∀ {b : Addr},(s3.heap.get? b ≠ none) → b ∉ adAll z.ad → b ∉ adAll (z.ad ++ [a']) := fun hb hn q => (new3 nx nd F.new q).elim hn hb
 have som : ∀ {b : Addr},PlT z.kt z.dx z.ad b → s3.heap.get? b ≠ none := fun p q => by obtain ⟨o,e,_⟩ := t.L.ob p; rw [q] at e; cases e
 let ob' : List Obj := (z.ad ++ [a']).map fun a => (s4.heap.get? a.tab).getD emptyDict
 have L' : Live C s4.heap z.kt z.dx ⟨T.T ++ [newNd c i],ob',T.cn⟩ (z.ad ++ [a']) fin := by
  refine ⟨L4.th.push hnd ⟨lx,ld,F.lo⟩ ⟨Ne.symm hxx,Ne.symm ht1,Ne.symm ht2⟩ ⟨fun q => ix (.inl q),fun q => id' (.inl q),fun q => it (.inl q)⟩,?_,⟨nin (som (.inr (.inl rfl))) t.L.hd.1,nin (som (.inr (.inr rfl))) t.L.hd.2.1,t.L.hd.2.2⟩,t.L.lo⟩
  obtain ⟨az,haz,K⟩ := L4.z
  exact ⟨az,by rw [List.getElem?_append_left (List.getElem?_eq_some_iff.mp haz).1]; exact haz,K⟩
 have hlast : (z.ad ++ [a'])[T.T.length]? = some a' := by rw [← t.L.th.len,List.getElem?_append_right (Nat.le_refl _),Nat.sub_self]; rfl
 have S4 := (S3.treeW (z' := ⟨fun b => z.lv b ∨ (PlT z.kt z.dx (z.ad ++ [a']) b ∧ s3.heap.get? b = none),z.kt,z.dx,z.ad ++ [a'],z.pl⟩) (T' := ⟨T.T ++ [newNd c i],ob',T.cn⟩) (fin' := fin) rfl hT (W := fun _ => False) k4.md (fun _ h => h.elim) (fun b l => l.imp id fun ⟨p,n⟩ => ⟨n,S3.new ok n,let ⟨o,e,q⟩ := L'.ob p; ⟨o,e,q.s.nd⟩⟩) (fun _ => .inl) rfl rfl
  (fun j b e => by show (z.ad ++ [a'])[j]? = _; rw [List.getElem?_append_left (List.getElem?_eq_some_iff.mp e).1]; exact e) rfl L' (fun j b e => by
   show _ = ((z.ad ++ [a']).map _)[j]?
   have e : (z.ad ++ [a'])[j]? = some b := e
   rw [List.getElem?_map,e]
   obtain ⟨o,eo,_⟩ := L'.ob (.inl (mem_adAll e).2.2)
   rw [eo]; show some o = some ((s4.heap.get? b.tab).getD emptyDict); rw [eo]; rfl) fun b p => by
   rcases p with p | p
   ·exact (new3 nx nd F.new p).imp .inl fun n => ⟨.inr ⟨.inl p,n⟩,n,S3.new ok n⟩
   ·exact .inl (.inr p)).1
 exact S4.store ok hx ho (v := .nd T.T.length) ⟨a',hlast,rfl⟩ fun s5 S5 _ _ => ⟨.next,_,_,S5,rfl,rfl,ob',rfl⟩
end
section
noncomputable def TB (T : List PNd) (b : Nat) : Prop := ∀ n ∈ T,n.tr.length ≤ b
theorem TB.step {T : List PNd} {b cur : Nat} {c : Int} (h : TB T b) : TB (stepT T cur c).1 (b + 1) := by
 unfold stepT
 cases hc : T[cur]? with
 | none => exact fun n hn => Nat.le_succ_of_le (h n hn)
 | some n0 =>
  dsimp only
  cases lookI c n0.tr with
  | some j => exact fun n hn => Nat.le_succ_of_le (h n hn)
  | none =>
   intro n hn
   rcases List.mem_append.mp hn with hn | hn
   ·rcases List.mem_or_eq_of_mem_set hn with hn | rfl
    ·exact Nat.le_succ_of_le (h n hn)
    ·have := h n0 (List.mem_of_getElem? hc)
     simp; omega
   ·simp at hn; subst hn; simp [newNd]
theorem TB.chs : ∀ {k : List Int} {T : List PNd} {b cur : Nat},TB T b → TB (addCh T cur k).1 (b + k.length)
 | [],_,_,_,h => h
 | c :: r,T,b,cur,h => by
  have := TB.chs (k := r) (cur := (stepT T cur c).2) (h.step (cur := cur) (c := c))
  unfold addCh
  intro n hn
  have := this n hn
  simp only [List.length_cons]; omega
theorem TB.add {T : List PNd} {b : Nat} (h : TB T b) (k : List Int) : TB (addT T k) (b + k.length) := by
 unfold addT
 split
 ·exact fun n hn => Nat.le_trans (h n hn) (Nat.le_add_right _ _)
 ·have h1 := TB.chs (k := k) (cur := 0) h
  unfold markT
  split
  ·rename_i n0 hn0
   intro n hn
   rcases List.mem_or_eq_of_mem_set hn with hn | rfl
   ·exact h1 n hn
   ·exact h1 n0 (List.mem_of_getElem? hn0)
  ·exact h1
structure GA (Te : List PNd) (T : TS) (fin : Bool) : Prop where
 f : fin = false
 e : T.T = Te
 c : T.cn = Te.length
inductive AdI (T0 : List PNd) (k : List Int) (b m : Nat) (E : StE) : Prop
 | mk (T : TS) (cur : Nat) (h : addCh T.T cur (k.drop m) = addCh T0 0 k) (hc : T.cn = T.T.length) (hb : TB T.T (b + m)) (e1 : E "" = some (.tr T false)) (e2 : E "current_state" = some (.val (.nd cur))) (e3 : E "original_keyword" = some (.val (.dat (wordD k)))) (e4 : E "self" = some (.val .kt))
theorem add_ok {C : Cx} (hC : Kn C) {R b : Nat} {T : TS} {k : List Int} (hcn : T.cn = T.T.length) (hb : TB T.T b) (hz : b + k.length ≤ 1000) : Meth C (R + 3) true 66 [.dat (wordD k)] T false (GA (addT T.T k)) := by
 obtain ⟨fd,hF,hbd⟩ := fn_add hC
 refine meth_run hF hC.gb (fun ws hl => ?_) rfl rfl ?_
 ·obtain ⟨a,b,rfl⟩ := len2 hl; exact hbd a b
 refine W_cons (W_if (.plain (d_of (r_head (fin := false) (hC.at (at_finalized _)) rfl (n_val rfl) rfl)) rfl) (W_nil ?_))
 refine W_s (WS_set rfl rfl (n_val (x := "keyword") (v := .dat (wordD k)) rfl) fun _ => rfl) ?_
 refine W_cons (W_if (.plain (d_of (r_head (fin := false) (hC.at (at_case _)) rfl (n_val rfl) rfl)) rfl) (W_nil ?_))
 refine W_cons (W_if (t_cmp (b := decide ((k.length : Int) ≤ 0)) rfl (d_of (r_len (d_of (n_val (v := .dat (wordD k)) rfl)) rfl rfl (lenD_word (by omega)))) (d_of r_int) rfl) ?_)
 cases k with
 | nil => exact W_cons (W_ret0 ⟨rfl,T,false,⟨rfl,rfl,hcn⟩,rfl⟩)
 | cons c0 k0 =>
 generalize hk : c0 :: k0 = k at hz ⊢
 have hlen : decide ((k.length : Int) ≤ 0) = false := decide_eq_false (by rw [← hk,List.length_cons]; omega)
 rw [hlen]
 refine W_nil ?_
 refine W_s (WS_set rfl rfl (r_head (fin := false) (v := .nd 0) (hC.at (at_zero _)) rfl (n_val rfl) rfl) fun _ => rfl) ?_
 refine W_one (I := AdI T.T k b k.length) (WS_for (items := k.map .int) (AdI T.T k b) rfl (it_val rfl rfl (n_val (v := .dat (wordD k)) rfl) rfl) ⟨T,0,rfl,hcn,hb,rfl,rfl,rfl,rfl⟩ (fun m d E hd ⟨T',cur,h,hc,hb',e1,e2,e3,e4⟩ => ?_) fun E hI => ⟨rfl,by rw [List.length_map] at hI; exact hI⟩) fun E ⟨T',cur,h,hc,hb',e1,e2,e3,e4⟩ => ?_
 ·rw [List.getElem?_map] at hd
  obtain ⟨c,hkc,rfl⟩ := Option.map_eq_some_iff.mp hd
  rw [drop_cons hkc] at h
  have h : addCh (stepT T'.T cur c).1 (stepT T'.T cur c).2 (k.drop (m + 1)) = _ := h
  have hm : m < k.length := (List.getElem?_eq_some_iff.mp hkc).1
  refine ⟨_,rfl,W_nd "current_state" (j := cur) (T := T') (fin := false) e2 e1 fun n hn => ?_⟩
  have hbs := hb'.step (cur := cur) (c := c)
  have hnl := hb' n (List.mem_of_getElem? hn)
  have hst : stepT T'.T cur c = match lookI c n.tr with
   | some j => (T'.T,j)
   | none => (T'.T.set cur { n with tr := n.tr ++ [(c,T'.T.length)] } ++ [newNd c cur],T'.T.length) := by unfold stepT; rw [hn]; first | done | rfl
  refine W_cons (WS_tryKey (T := T') (fin := false) (n := n) e1 (r_slot (hC.sl (slot_tr _)) e1 (n_val e2) hn rfl) (n_val rfl) hn rfl rfl rfl rfl (fun j hl => ?_) (fun hl => ?_))
  ·rw [hl] at hst
   rw [hst] at h hbs
   exact W_nil ⟨T',j,h,hc,hbs,e1,rfl,e3,e4⟩
  ·rw [hl] at hst
   rw [hst] at h hbs
   have hcur : cur < T'.T.length := (List.getElem?_eq_some_iff.mp hn).1
   refine W_sx (WS_state (T := T') (fin := false) (i := cur) (c := c) hC rfl rfl rfl e1 rfl (r_head (fin := false) (hC.at (at_counter _)) e1 (n_val e4) rfl) (n_val e2) (n_val rfl) hc) fun ob' => ?_
   refine W_s (WS_count (m := 1) (hC.at (at_counter _)) ng rfl (n_val e4) r_int) ?_
   have hn' : (T'.T ++ [newNd c cur])[cur]? = some n := by rw [List.getElem?_append_left hcur]; exact hn
   refine W_sx (WS_tab (n := n) (j := T'.T.length) (c := c) ng rfl (r_slot (hC.sl (slot_tr _)) rfl (n_val e2) hn' rfl) (n_val rfl) (n_val rfl) hn' hl (by omega)) fun o => ?_
   refine W_s (WS_set rfl rfl (n_val (x := "next_state") (v := .nd T'.T.length) rfl) fun _ => rfl) ?_
   refine W_nil (W_nil ⟨_,T'.T.length,(by show addCh ((T'.T ++ [newNd c cur]).set cur _) _ _ = _; rw [List.set_append_left _ _ hcur]; exact h),?_,?_,rfl,rfl,e3,e4⟩)
   ·show T'.cn + 1 = ((T'.T ++ [newNd c cur]).set cur _).length
    rw [List.length_set,List.length_append,hc]; rfl
   ·show TB ((T'.T ++ [newNd c cur]).set cur _) _
    rw [List.set_append_left _ _ hcur]; exact hbs
 ·rw [List.drop_length] at h
  have h : (T'.T,cur) = _ := h
  refine W_nd "current_state" (j := cur) (T := T') (fin := false) e2 e1 fun n hn => ?_
  refine W_s (WS_slot (hC.sl (slot_suc _)) ng e1 (n_val e2) r_bool hn (.suc true)) ?_
  have hcur : cur < T'.T.length := (List.getElem?_eq_some_iff.mp hn).1
  refine W_s (WS_slot (hC.sl (slot_kw _)) ng rfl (n_val e2) (n_val (v := .dat (wordD k)) e3) (List.getElem?_set_self hcur) (.kw k)) ?_
  refine W_nil ⟨rfl,_,false,⟨rfl,?_,?_⟩,rfl⟩
  ·show (T'.T.set cur _).set cur _ = _
   rw [List.set_set]
   unfold addT
   rw [if_neg (by rw [← hk]; nofun),← h]
   unfold markT
   rw [hn]
  ·show T'.cn = _
   unfold addT
   rw [if_neg (by rw [← hk]; nofun),← h]
   unfold markT
   rw [hn,hc,List.length_set]
end
section
structure RawK (P : Pr) (f : Fx) (z : Lc) (s : Shared) (kt dx dm : Addr) (es : List DictEntry) (m : Nat) : Prop where
 hx : s.heap.get? kt = some (instObj 125 dx)
 hd : ∃ n,s.heap.get? dx = some (dictOf es n)
 as : AllStr es
 le : es.length ≤ m
 hm : s.heap.get? dm = some emptyDict
 lo : P.C.lo ≤ dm
 ne : dm ≠ dx ∧ kt ≠ dx
 nl : dm ≠ f.env.locals ∧ dx ≠ f.env.locals
 wb : Wb P f dx
 lv : z.lv dx
section
variable {P : Pr} {f : Fx} {z : Lc} {E : StE} {s s' : Shared} {kt dx dm : Addr} {es : List DictEntry} {m : Nat}
theorem RawK.kp {lo : Nat} (r : RawK P f z s kt dx dm es m) (k : Kp lo s s') : RawK P f z s' kt dx dm es m := ⟨k.get r.hx nofun,let ⟨n,e⟩ := r.hd; ⟨n,k.get e (by simp)⟩,r.as,r.le,k.get r.hm nofun,r.lo,r.ne,r.nl,r.wb,r.lv⟩
theorem St.setK {attr : Str} {v : Value} {Q : Unit → Shared → Prop} {X : Value → Shared → Prop} (S : St P f z E s) (ok : FOk P f) (R : RawK P f z s kt dx dm es m) (hz : m ≤ 20) (hE : ∀ y e,E y = some e → ∃ v,e = .val v) (At : AttrIs P.C.K 125 attr)
  (h : ∀ s' es',St P f z E s' → RawK P f z s' kt dx dm es' (m + 1) → (∀ k,getL k es' = if k = attr then some (some v) else getL k es) → Rest1 dx s.heap s'.heap → Md P.C.lo (· = dx) s s' → Q () s') : wpAny P.C.M f.A (PySem.setAttr (.ref kt) attr v) Q X s := by
 obtain ⟨mm,hns⟩ := S.ns
 obtain ⟨n,hd⟩ := R.hd
 have hgl : (getL attr es).isSome = true := by
  unfold getL
  split
  ·rfl
  ·rw [R.as.noRef]; rfl
 refine set_attr2 S.on hns ok.lo R.hm R.lo R.nl.1 R.ne.1 ⟨R.hx,rfl,rfl,hd⟩ rfl R.wb.h₀ R.nl.2 At hgl (Nat.le_trans R.le (Nat.le_trans hz (by decide))) fun h' tk t hx hr => ?_
 have hf : ∃ o',h'.get? dx = some o' ∧ ∀ vs,o'.data ≠ .fields vs := ⟨_,hx,(fun _ q => Data.noConfusion q)⟩
 have md : Md P.C.lo (· = dx) s { s with heap := h',toks := tk } := rest_md hr hd (by simp) hf
 have hW : ∀ b,b = dx → Wr P f z s b := by
  rintro b rfl
  refine ⟨R.wb,fun o e => ?_⟩
  rw [hd] at e; obtain rfl := Option.some.inj e
  exact ⟨(fun _ q => Data.noConfusion q),fun _ _ c => (by simp at c),R.nl.2,.inl R.lv,by nofun⟩
 have S' := S.move md hW (.refl (Wr.stable (z' := z) md hW fun _ => .inl)) (fun y e h => .inl ⟨h,rfl,fun l => (by obtain ⟨v,rfl⟩ := hE y e h; exact l.elim),fun T fin q => (by obtain ⟨v,rfl⟩ := hE y e h; cases q)⟩) S.ij
 exact h _ _ S' ⟨hr _ _ R.ne.2 R.hx,⟨_,hx⟩,R.as.put,Nat.le_trans (putL_len es) (Nat.succ_le_succ R.le),hr _ _ R.ne.1 R.hm,R.lo,R.ne,R.nl,R.wb,R.lv⟩ (fun k => getL_put R.as k attr _ t v) hr md
theorem St.rawK {s0 : Shared} {attr : Str} {e : Expr} {v : Value} {p np sp : Pos} {r : List Stmt} {Q : Flow → Shared → Prop} {X : Value → Shared → Prop} (S : St P f z E s) (ok : FOk P f) (R : RawK P f z s kt dx dm es m) (hz : m ≤ 20) (hE : ∀ y e,E y = some e → ∃ v,e = .val v) (h0 : E "self" = some (.val (.raw (.ref kt)))) (At : AttrIs P.C.K 125 attr)
  (he : ∀ Q : Value → Shared → Prop,Q v s → wpAny P.C.M f.A (eval e f.env) Q X s0) (h : ∀ s' es',St P f z E s' → RawK P f z s' kt dx dm es' (m + 1) → (∀ k,getL k es' = if k = attr then some (some v) else getL k es) → Rest1 dx s.heap s'.heap → Md P.C.lo (· = dx) s s' → wpAny P.C.M f.A (execs r f.env) Q X s') (hs : swapsWith e (some (.Attribute (.Name "self" np) attr p)) sp.line f.env = pure false := by rfl) :
  wpAny P.C.M f.A (execs (.Assign [.Attribute (.Name "self" np) attr p] e sp :: r) f.env) Q X s0 :=
 wpAny_execs_cons (plainObj_wpAny_Assign_Attribute (he _ (S.nm ok h0 (S.setK ok R hz hE At h))) hs)
end
theorem fn_kt {C : Cx} (h : Kn C) : ∃ fd,FnIs C 59 fd ["self","case_insensitive"] (mBd 2 0) (mNm 2 0) ∧ ∀ S x,peek (KK C.w.params) S (bindArgs fd ⟨[x],[]⟩) = some [(("self" : Str),x),(("case_insensitive" : Str),.bool false)] := ⟨_,h.fn rfl rfl rfl rfl rfl rfl rfl rfl rfl rfl rfl rfl rfl,fun _ _ => rfl⟩
theorem noneKp {lo : Nat} {s s' : Shared} (k : Kp lo s s') {b : Addr} (h : s'.heap.get? b = none) : s.heap.get? b = none := by
 cases e : s.heap.get? b with
 | none => rfl
 | some o => obtain ⟨o',e',_⟩ := k.heap b o e; rw [h] at e'; cases e'
theorem kt_init {C : Cx} (hC : Kn C) {R : Nat} {A : Around} {s : Shared} (on : C.On s) (hlo : C.lo ≤ s.heap.objs.size) (M : Rm C (R + 3) A s) {kt dx : Addr} {Rr : Result → Shared → Prop}
  (hx : s.heap.get? kt = some (instObj 125 dx)) (hdx : s.heap.get? dx = some emptyDict) (hdx0 : C.h₀.get? dx = none) (hne : kt ≠ dx)
  (h : ∀ s' x dxs ox tab t u,KtAt s'.heap kt dx (.ref x) (.int 1 t) (.bool false) → Fresh C s x dxs s' ox tab (.int 0 u) .none .none (.bool false) → s.heap.get? x = none → s.heap.get? dxs = none → C.lo ≤ x → C.lo ≤ dxs → s'.heap.get? dxs = some emptyDict →
   dxs ≠ x → tab ≠ x → tab ≠ dxs → Md C.lo (· = dx) s s' → Rr (.ok (.ret .none)) s') : codeAny C.M A (.call (.ref 59) ⟨[.ref kt],[]⟩) Rr s := by
 obtain ⟨fd,hF,hb⟩ := fn_kt hC
 have rs : All2 (VR C s.heap ⟨fun b => b = dx,0,0,[],fun _ => 0⟩) [.raw (.ref kt),.raw (.bool false)] [.ref kt,.bool false] := .cons rfl (.cons rfl .nil)
 refine code_E (un := false) (kd := .law) (R := R + 2) (ws := [.ref kt,.bool false]) (z := ⟨fun b => b = dx,0,0,[],fun _ => 0⟩) (Z := fun b => b = dx) (E0 := initE ["self","case_insensitive"] [.raw (.ref kt),.raw (.bool false)]) hF hC.gb nofun M on hlo (fun b q => ⟨emptyDict,q ▸ hdx,nofun⟩) (fun b o q e => ?_) ⟨fun y v hy => ?_,fun y T fin hy => ?_,fun y e hy l => ?_⟩ rfl (hC.bd on fun S => hb S _) fun f z1 s1 X ok S h1 h2 _ _ k1 hL lv1 => ?_
 ·rw [q,hdx] at e; obtain rfl := Option.some.inj e; exact ⟨q,nofun,nofun⟩
 ·obtain ⟨v',w,e,hm,r⟩ := initE_get rs y _ hy
  cases e
  exact ⟨w,hm,okn rfl hm,r⟩
 ·obtain ⟨v',w,e,_⟩ := initE_get rs y _ hy; cases e
 ·obtain ⟨v',w,e,_⟩ := initE_get rs y _ hy; subst e; exact l
 have hE : ∀ y e,initE ["self","case_insensitive"] [.raw (.ref kt),.raw (.bool false)] y = some e → ∃ v,e = .val v := fun y e hy => let ⟨v,w,q,_⟩ := initE_get rs y e hy; ⟨v,q⟩
 have kT : Kp C.lo s1 { s1 with toks := s1.toks + 1 } := Kp.tok
 have S1 := S.kp kT
 have hx1 := k1.get hx nofun
 have hd1 := k1.get hdx nofun
 have hdL : dx ≠ f.env.locals := fun q => by rw [q,hL] at hdx; cases hdx
 refine wpAny_execs_cons (plainObj_wpAny_Assign_Attribute ?_)
 obtain ⟨g1,g2⟩ := gl_kind ok (x := "State") rfl
 refine call_name (fv := .ref 34) S.on (keep_in (by rw [hC.K]; rfl)) rfl (fun Q E q => name_global S.on ok.ok g1 (by show nsIn C.K _ _ = _; rw [hC.K]; rfl) g2 q) (args_one rfl (wpAny_Constant_int ?_))
 refine ⟨S1.on,new_state (R := R) hC S1.on (S1.size ok) S1.rm (symv := .none) (parv := .none) (sucv := .bool false) (idv := .int 0 s1.toks) (fun x fd oc od osl e => by cases e; exact fun _ => rfl) fun s2 x dxs ox tab F k2 nx nd lx ld ed hxx ht1 ht2 => ?_⟩
 have nx : s1.heap.get? x = none := nx
 have nd : s1.heap.get? dxs = none := nd
 have nt : s1.heap.get? tab = none := F.new
 have x_dx : x ≠ dx := by rintro rfl; rw [hd1] at nx; cases nx
 have dxs_dx : dxs ≠ dx := by rintro rfl; rw [hd1] at nd; cases nd
 have tab_dx : tab ≠ dx := by rintro rfl; rw [hd1] at nt; cases nt
 have nL : ∀ {b : Addr},s1.heap.get? b = none → b ≠ f.env.locals := by rintro b hb rfl; obtain ⟨m,o,_,_,e,_⟩ := S.ns; rw [hb] at e; cases e
 have S2 := S1.kp k2
 have k12 : Kp C.lo s1 s2 := kT.trans k2
 have R2 : RawK ⟨C,R + 2,mNm 2 0,false,.law⟩ f z1 s2 kt dx dxs [] 0 := ⟨k12.get hx1 nofun,⟨0,k12.get hd1 nofun⟩,(fun _ hm => nomatch hm),Nat.le_refl _,ed,ld,⟨dxs_dx,hne⟩,⟨nL nd,hdL⟩,⟨hdx0,.inl (h2 ▸ rfl)⟩,lv1 dx rfl⟩
 refine S2.nm ok rfl (S2.setK ok R2 (by decide) hE (hC.at (at_zero _)) fun s3 es3 S3 R3 g3 r3 md3 => ?_)
 refine (S3.kp (Kp.tok (tk := s3.toks + 1))).rawK ok (R3.kp (Kp.tok (lo := C.lo) (tk := s3.toks + 1))) (by decide) hE rfl (hC.at (at_counter _)) (fun Q q => wpAny_Constant_int q) fun s4 es4 S4 R4 g4 r4 md4 => ?_
 refine S4.rawK ok R4 (by decide) hE rfl (hC.at (at_finalized _)) (fun Q q => wpAny_Constant_bool q) fun s5 es5 S5 R5 g5 r5 md5 => ?_
 refine S5.rawK ok R5 (by decide) hE rfl (hC.at (at_case _)) (fun Q => S5.nm ok rfl) fun s6 es6 S6 R6 g6 r6 md6 => ?_
 refine S6.rawK ok R6 (by decide) hE rfl (hC.at (at_skip _)) (fun Q q => wpAny_Constant_none q) fun s7 es7 S7 R7 g7 r7 md7 => ?_
 refine S7.rawK ok R7 (by decide) hE rfl (hC.at (at_skipt _)) (fun Q q => wpAny_Constant_none q) fun s8 es8 S8 R8 g8 r8 md8 => ?_
 have go : ∀ b o,b ≠ dx → s2.heap.get? b = some o → s8.heap.get? b = some o := fun b o h1 e => r8 b o h1 (r7 b o h1 (r6 b o h1 (r5 b o h1 (r4 b o h1 (r3 b o h1 e)))))
 obtain ⟨n8,hd8⟩ := R8.hd
 refine wpAny_execs_nil (h s8 x dxs ox tab s3.toks s1.toks ⟨⟨_,R8.hx,rfl,rfl,rfl⟩,es8,n8,hd8,R8.as,Nat.le_trans R8.le (by decide),?_,?_,?_,?_,?_⟩
  ⟨go x ox x_dx F.at',F.cls,F.dict,F.data,F.s0,F.s1,F.s2,F.s3,F.s4,F.s5,F.s6,F.s7,go tab _ tab_dx F.tb,noneKp k1 nt,F.lo⟩ (noneKp k1 nx) (noneKp k1 nd) lx ld (go dxs _ dxs_dx ed) hxx ht1 ht2 (k1.md.trans (k12.md.trans (md3.trans ((Kp.tok (s := s3) (tk := s3.toks + 1)).md.trans (md4.trans (md5.trans (md6.trans (md7.trans md8)))))))))
 ·rw [g8,g7,g6,g5,g4,g3]; rfl
 ·rw [g8,g7,g6,g5,g4]; rfl
 ·rw [g8,g7,g6,g5]; rfl
 ·rw [g8,g7,g6]; rfl
 ·intro k hk
  unfold ktNames at hk
  simp only [List.mem_cons,List.not_mem_nil,or_false,not_or] at hk
  obtain ⟨h1,h2,h3,h4,h5,h6⟩ := hk
  rw [g8,if_neg h6,g7,if_neg h5,g6,if_neg h4,g5,if_neg h3,g4,if_neg h2,g3,if_neg h1]; rfl
end
section
theorem th_nil {C : Cx} {h : Heap} : TH C h [] [] := ⟨rfl,fun _ _ _ e _ => none_some (List.getElem?_nil.symm.trans e),fun _ e => (List.not_mem_nil e).elim,.nil⟩
theorem na3 {a b c : Addr} : a ∉ adAll [] ∧ b ∉ adAll [] ∧ c ∉ adAll [] := ⟨nofun,nofun,nofun⟩
theorem kt_new {C : Cx} (hC : Kn C) {R : Nat} {A : Around} {s : Shared} {X : Value → Shared → Prop} (on : C.On s) (hlo : C.lo ≤ s.heap.objs.size) (M : Rm C (R + 4) A s) {Q : Value → Shared → Prop}
  (h : ∀ s' kt dx ob a,Live C s'.heap kt dx ⟨[root0],ob,1⟩ [a] false → (∀ (j : Nat) b,[a][j]? = some b → s'.heap.get? b.tab = ob[j]?) → Kp C.lo s s' → (∀ b,PlT kt dx [a] b → s.heap.get? b = none) → Q (.ref kt) s') : wpAny C.M A (call (.ref 125) [] []) Q X s := by
 refine wpAny_call ?_
 obtain ⟨hh,g,d,t,os⟩ := s
 have XX : (KK C.w.params).In hh := hC.K ▸ C.kin.keeps on
 refine make_core (makes_of XX (C := 125) rfl) (looks_findIn XX (rfl : findIn (KK C.w.params) (.ref 125) "__init__" = some (some (.ref 59)))) (fun self => bind_fn XX self rfl) (.inl rfl) ?_
 have kp : Kp C.lo (⟨hh,g,d,t,os⟩ : Shared) ⟨(hh.push emptyDict).push (instObj 125 hh.objs.size),g,d,t,os⟩ := Kp.of_keep (s := ⟨hh,g,d,t,os⟩) (tk := t) fun b o e => Heap.get?_push_of_some _ (Heap.get?_push_of_some _ e)
 have hsz : (hh.push emptyDict).objs.size = hh.objs.size + 1 := Heap.size_push ..
 have ex : ((hh.push emptyDict).push (instObj 125 hh.objs.size)).get? (hh.objs.size + 1) = some (instObj 125 hh.objs.size) := by rw [← hsz]; exact Heap.get?_push_size _ rfl
 have ed : ((hh.push emptyDict).push (instObj 125 hh.objs.size)).get? hh.objs.size = some emptyDict := Heap.get?_push_of_some _ (Heap.get?_push_size _ rfl)
 have nx : hh.get? (hh.objs.size + 1) = none := Heap.get?_none_of_le (Nat.le_succ _)
 have nd : hh.get? hh.objs.size = none := get_none_size _
 have hlo' : C.lo ≤ hh.objs.size := hlo
 have hne : hh.objs.size + 1 ≠ hh.objs.size := Nat.succ_ne_self _
 refine kt_init (R := R) hC (on.kp kp) (by show C.lo ≤ ((hh.push emptyDict).push _).objs.size; rw [Heap.size_push,hsz]; exact Nat.le_succ_of_le (Nat.le_succ_of_le hlo')) ((M.kp kp).tc) ex ed (On_none on nd) hne fun s' x dxs ox tab tk u KT F nx' nd' lx ld ed' h1 h2 h3 md => ?_
 have up : ∀ {b : Addr},((hh.push emptyDict).push (instObj 125 hh.objs.size)).get? b = none → hh.get? b = none ∧ hh.objs.size + 1 ≠ b ∧ hh.objs.size ≠ b := fun {b} hb => by
  refine ⟨?_,?_,?_⟩
  ·cases e : hh.get? b with
   | none => rfl
   | some o => have := Heap.get?_push_of_some (instObj 125 hh.objs.size) (Heap.get?_push_of_some emptyDict e); rw [hb] at this; cases this
  ·rintro rfl; rw [ex] at hb; cases hb
  ·rintro rfl; rw [ed] at hb; cases hb
 have n3 : ∀ {b : Addr},b ∈ adAll [⟨x,dxs,tab⟩] → hh.get? b = none ∧ hh.objs.size + 1 ≠ b ∧ hh.objs.size ≠ b := fun hb => up (by
  rcases new3 (ad := []) nx' nd' F.new hb with q | q
  ·exact (List.not_mem_nil (show _ ∈ [] from q)).elim
  ·exact q)
 have th : TH C s'.heap [root0] [⟨x,dxs,tab⟩] := by
  refine TH.push (T := []) (ad := []) (n := root0) (a := ⟨x,dxs,tab⟩) th_nil ⟨⟨ox,F.at',F.cls,F.dict,F.data,⟨u,F.s0⟩,⟨_,F.s1,rfl⟩,⟨_,F.s2,rfl⟩,F.s3,⟨_,F.s4,rfl⟩,F.s5,⟨_,F.s6,rfl⟩,F.s7⟩,ed',tab_new F.tb⟩ ⟨lx,ld,F.lo⟩ ⟨Ne.symm h1,Ne.symm h2,Ne.symm h3⟩ na3
 refine ⟨rfl,h s' _ _ [{ cls := .type "dict",data := .dict #[] }] ⟨x,dxs,tab⟩ ⟨th,⟨_,rfl,tk,KT⟩,⟨fun q => (n3 q).2.1 rfl,fun q => (n3 q).2.2 rfl,hne⟩,Nat.le_succ_of_le hlo',hlo'⟩ (fun j b e => ?_) (Md.kp kp md fun b o e q => ?_) fun b p => ?_⟩
 ·cases j with
  | succ j => simp at e
  | zero => cases e; exact F.tb
 ·subst q
  have e : hh.get? hh.objs.size = some o := e
  rw [nd] at e; cases e
 ·rcases p with p | rfl | rfl
  ·exact (n3 p).1
  ·exact nx
  ·exact nd
noncomputable def flat : Ent → Prop
 | .val (.dat _) => True
 | .val (.dic _) => True
 | .live _ => True
 | _ => False
noncomputable def Flat (E : StE) : Prop := ∀ x e,E x = some e → flat e
theorem Flat.set {E : StE} {x : Str} {e : Ent} (h : Flat E) (he : flat e) : Flat (setE E x e) := fun y e' q => by
 unfold setE at q
 split at q
 ·cases q; exact he
 ·exact h y e' q
section
variable {P : Pr} {f : Fx} {z : Lc} {E : StE} {s s' : Shared} {T : TS} {fin : Bool}
theorem St.rebase (S : St P f z E s) (hk : P.kd.fx = false) (hE : Flat E) (kt dx : Addr) (ad : List Ad) : St P f ⟨z.lv,kt,dx,ad,z.pl⟩ E s :=
 ⟨S.on,S.rm,S.md,S.lt,S.lb,S.ll,S.lu,S.ns,S.oc,fun x e h => by
  have := hE x e h
  cases S.er x e h with
  | slot w sl r =>
   refine .slot w sl ?_
   cases e with
   | val v => cases v <;> first | exact r | exact this.elim
   | live l => exact r
   | tr T fin => exact this.elim
   | nds l => exact this.elim
   | nats l => exact this.elim
   | dic l => exact this.elim
  | tr k t => exact this.elim,S.ij,fun h => no_tf (hk.symm.trans h)⟩
theorem St.addTr (S : St P f z E s) (t : TrW P f z s.heap T fin) : St P f z (setE E "" (.tr T fin)) s :=
 ⟨S.on,S.rm,S.md,S.lt,S.lb,S.ll,S.lu,S.ns,S.oc,fun x e h => by
  unfold setE at h
  split at h
  ·rename_i hx; obtain rfl := Option.some.inj h; exact .tr hx t
  ·exact S.er x e h,fun x y e e' h1 h2 l1 l2 q => by
  unfold setE at h1 h2
  split at h1
  ·cases h1; exact l1.elim
  ·split at h2
   ·cases h2; exact l2.elim
   ·exact S.ij x y e e' h1 h2 l1 l2 q,S.zt⟩
end
theorem WS_tree {C : Cx} (hC : Kn C) {R : Nat} {nm : Nm} {un : Bool} {E : StE} {x : Str} {xp fp cp sp : Pos} (hE : Flat E) (hx : isLC nm x = true) (ho : okName x = true) (hg : isGl nm "KeywordTree" = true) :
  WS ⟨C,R + 4,nm,un,.law⟩ E (.Assign [.Name x xp] (.Call (.Name "KeywordTree" fp) [] [] cp) sp) fun fl E' => fl = .next ∧ ∃ ob,E' = setE (setE E "" (.tr ⟨[root0],ob,1⟩ false)) x (.val .kt) := fun f z s ok S X => by
 obtain ⟨g1,g2⟩ := gl_kind ok hg
 refine wpAny_Assign_Name (call_name (fv := .ref 125) S.on (keep_in (by rw [hC.K]; rfl)) rfl (fun Q E q => name_global S.on ok.ok g1 (by show nsIn C.K _ _ = _; rw [hC.K]; rfl) g2 q) (args_nil (env := f.env) ⟨S.on,kt_new (R := R) hC S.on (S.size ok) S.rm fun s1 kt dx ob a L hob k hn => ?_⟩)) rfl
 have S1 : St ⟨C,R + 4,nm,un,.law⟩ f ⟨fun b => z.lv b ∨ PlT kt dx [a] b,z.kt,z.dx,z.ad,z.pl⟩ E s1 := S.move (W := fun _ => False) k.md (fun _ h => h.elim) ⟨⟨(k.stable z.lv).keep,(k.stable z.lv).tup,fun b o e _ l => l.elim id fun q => by rw [hn b q] at e; cases e⟩,fun b l => l.imp id fun q => ⟨S.new ok (hn b q),let ⟨o,e,t⟩ := L.ob q; ⟨o,e,t.s.nd⟩⟩,fun b l => .inl l,rfl,rfl,fun _ _ e => e⟩ (fun x e h => .inl ⟨h,rfl,fun _ => id,fun _ _ _ => ⟨rfl,rfl,fun _ _ => id⟩⟩) S.ij
 have S2 := (S1.rebase rfl hE kt dx [a]).addTr (T := ⟨[root0],ob,1⟩) (fin := false) ⟨L,hob,fun p => (by obtain ⟨m,o,_,_,e,_⟩ := S.ns; rw [hn _ p] at e; cases e),fun _ b p => ⟨.inr p,S.wb ok (hn b p)⟩,fun _ b p => S.nc (hn b p),fun h => Kd.noConfusion h⟩
 exact S2.store ok hx ho (v := .kt) rfl fun s3 S3 _ _ => ⟨.next,_,_,S3,rfl,rfl,ob,rfl⟩
end
section
noncomputable def hitD (h : List Int × Int) : PyData := .tuple [wordD h.1,.int h.2]
structure Ov (A A' : Around) (env : Env) : Prop where
 fr : A'.frames = A.frames.map (env :: ·)
 dp : A'.depth = A.depth + 1
 un : A'.units = A.units + 3
 hh : A.handled = none → A'.handled = none
theorem ov_func {A : Around} {body : List Stmt} {env : Env} : Ov A (A.over (.func body env) []) env := ⟨rfl,rfl,rfl,id⟩
theorem ov_for {A : Around} {t it : _} {b body : List Stmt} {env : Env} {k : Result → Sem Fin} {g : Bool} {l : List Value} {p : Pos} : Ov A (A.over (.forLoop t it b [] env) [.ret k none g l (.func body env) p []]) env := ⟨rfl,rfl,rfl,id⟩
theorem ov_for2 {A : Around} {t it t' it' : _} {b b' body : List Stmt} {env : Env} {k k' : Result → Sem Fin} {g g' : Bool} {l l' : List Value} {p p' : Pos} :
  Ov A (A.over (.forLoop t it b [] env) [.ret k' none g' l' (.forLoop t' it' b' [] env) p' [],.ret k none g l (.func body env) p []]) env := ⟨rfl,rfl,rfl,id⟩
structure Gn where
 C : Cx
 R : Nat
 env : Env
 sB : Shared
 S : Addr
 kt : Addr
 dx : Addr
 ad : List Ad
noncomputable abbrev Gn.P (g : Gn) : Pr := ⟨g.C,g.R,mNm 2 5,true,.gen⟩
noncomputable abbrev Gn.z (g : Gn) : Lc := ⟨fun b => b = g.env.locals ∨ b = g.S,g.kt,g.dx,g.ad,fun _ => 0⟩
noncomputable abbrev Gn.f (g : Gn) (A : Around) (G : Array GenState) : Fx := ⟨A,g.env,[],[],{ g.sB with gens := G },fun _ => False,fun _ => False,fun b => b = g.S,g.z⟩
structure GB (g : Gn) (A : Around) (T : TS) : Prop where
 on : g.C.On g.sB
 L : Live g.C g.sB.heap g.kt g.dx T g.ad true
 ob : ∀ (j : Nat) a,g.ad[j]? = some a → g.sB.heap.get? a.tab = T.ob[j]?
 ro : Rm g.C (g.R + 1) A g.sB
 hh : A.handled = none
 ok : EnvOk g.env
 fm : g.env.frame = some g.env.locals
 lo : g.C.lo ≤ g.env.locals
 nL : g.sB.heap.get? g.env.locals = none
 hS : g.sB.heap.get? g.S = none
 SL : g.S ≠ g.env.locals
 st : ∀ x,isLC (mNm 2 5) x = true → g.env.kindOf x = some .local
 gl : ∀ x,(mNm 2 5).lookup x = some .globalImplicit → g.env.kindOf x = some .globalImplicit
 cf : ∀ x,¬ ((mNm 2 5).lookup x = some .cell ∨ (mNm 2 5).lookup x = some .free)
 ce : g.env.cells = []
 kn : Kn g.C
 co : g.env.scope.isCoroutine = false
noncomputable def listO (acc : Array Value) (c : Nat) : Obj := { cls := .type "list",dict := none,data := .seq acc c,slots := #[] }
structure Ko (o : Obj) : Prop where
 d : ∀ es n,o.data ≠ .dict es n
 c : ∀ v,o.data ≠ .cell v
 f : o.cls ≠ .type "frame"
theorem Ko.fields {o : Obj} {n : String} {vs : Array Value} (c : o.cls = .type n) (d : o.data = .fields vs) (h : n ≠ "frame") : Ko o := ⟨fun _ _ q => Data.noConfusion (d.symm.trans q),fun _ q => Data.noConfusion (d.symm.trans q),fun q => h (Value.type.inj (c.symm.trans q))⟩
theorem Ko.list {acc : Array Value} {c : Nat} : Ko (listO acc c) := ⟨(fun _ _ q => Data.noConfusion q),(fun _ q => Data.noConfusion q),fun q => absurd (Value.type.inj q) (by decide)⟩
structure Af (C : Cx) (S : Addr) (sB r s : Shared) : Prop where
 k0 : Kp C.lo sB s
 sS : ∀ o,r.heap.get? S = some o → Ko o → s.heap.get? S = some o
 tk : TupKeep r.heap s.heap
 gn : GKeep r.gens s.gens
structure Pk (S : Addr) (sB s s' : Shared) : Prop where
 keep : ∀ b o,b ≠ S → s.heap.get? b = some o → s'.heap.get? b = some o
 os : s'.os = s.os
 g : GKeep sB.gens s'.gens
 tup : TupKeep s.heap s'.heap
 sx : ∃ acc c,s'.heap.get? S = some (listO acc c)
noncomputable def YP (C : Cx) (A : Around) (S : Addr) (sB : Shared) : List (List Int × Int) → Shared → End → Shared → Prop
 | [],r0,e,s' => e = .ret (.ok (.ret .none)) ∧ Af C S sB r0 s'
 | h :: r,r0,e,s' => ∃ v l k c' p fs',e = .susp v false l k c' p fs' ∧ RdT s'.heap v (hitD h) ∧ Af C S sB r0 s' ∧ ∀ s'',Pk S sB s' s'' → SX C.M A c' (k (.send .none)) fs' s'' (YP C A S sB r s'')
noncomputable def Ks (ds : List (Addr × Obj)) (s : Shared) : Prop := ∀ p ∈ ds,s.heap.get? p.1 = some p.2 ∧ Ko p.2
structure GS (g : Gn) (A : Around) (E : StE) (ds : List (Addr × Obj)) (r0 s : Shared) : Prop where
 I : St g.P (g.f A r0.gens) g.z E s
 K : Ks ds s
 a : Af g.C g.S g.sB r0 s
 Sx : ∃ acc c,s.heap.get? g.S = some (listO acc c)
 g0 : GKeep g.sB.gens r0.gens
section
variable {g : Gn} {A A' A2 : Around} {T : TS} {E E' : StE} {s s' r0 : Shared} {ds ds' : List (Addr × Obj)}
theorem GB.fok (B : GB g A T) (O : Ov A A' g.env) (G : Array GenState) : FOk g.P (g.f A' G) :=
 ⟨B.ok,fun x h => .inl (B.st x h),B.gl,fun x h => (B.cf x h).elim,B.ce,.nil,nofun,B.lo,⟨Heap.get?_none_of_le B.lo,.inr B.nL⟩,nofun,fun _ _ h => h.elim,fun _ => O.hh B.hh,B.kn.gb,nofun⟩
theorem FKeep.ko (fk : FKeep s s') : ∀ b o,s.heap.get? b = some o → Ko o → s'.heap.get? b = some o := fun b o e k => fk b o e k.d k.c
theorem GS.step (G : GS g A E ds r0 s) (S' : St g.P (g.f A r0.gens) g.z E' s') (fk : ∀ b o,s.heap.get? b = some o → Ko o → s'.heap.get? b = some o) (tk : TupKeep s.heap s'.heap) : GS g A E' ds r0 s' :=
 ⟨S',fun p hp => ⟨fk _ _ (G.K p hp).1 (G.K p hp).2,(G.K p hp).2⟩,⟨⟨fun b o e => S'.md.heap b o e id,S'.md.os,G.g0.trans S'.md.gens⟩,fun o e k => fk _ _ (G.a.sS o e k) k,fun b o vs n e c d => tk _ _ _ _ (G.a.tk _ _ _ _ e c d) c d,S'.md.gens⟩,let ⟨acc,c,e⟩ := G.Sx; ⟨acc,c,fk _ _ e .list⟩,G.g0⟩
theorem GS.kp (G : GS g A E ds r0 s) (k : Kp g.C.lo s s') : GS g A E ds r0 s' := G.step (G.I.kp k) (fun b o e q => k.get e q.f) fun b o vs n e c _ => k.get e (ne_tf c)
theorem GS.as (G : GS g A' E ds r0 s) (O : Ov A A' g.env) (O2 : Ov A A2 g.env) : GS g A2 E ds r0 s := ⟨St.as (A := A') (un := true) (O2.dp.trans O.dp.symm) (O2.un.trans O.un.symm) (O2.fr.trans O.fr.symm) G.I,G.K,G.a,G.Sx,G.g0⟩
theorem GS.ev {e : Expr} {v : V} {Q X : Value → Shared → Prop} (B : GB g A T) (O : Ov A A' g.env) (G : GS g A' E ds r0 s) (he : Ex g.P E e v) (q : ∀ w s',GS g A' E ds r0 s' → VR g.C s'.heap g.z v w → TupKeep s.heap s'.heap → Q w s') : wpAny g.C.M A' (eval e g.env) Q X s :=
 he _ _ s (B.fok O _) G.I Q X fun w s' k r => q w s' (G.kp k) r fun b o vs n e c _ => k.get e (ne_tf c)
theorem GS.assign {x : Str} {p sp : Pos} {e : Expr} {v : V} {Q : Flow → Shared → Prop} {X : Value → Shared → Prop} (B : GB g A T) (O : Ov A A' g.env) (G : GS g A' E ds r0 s) (hx : isLC (mNm 2 5) x = true) (ho : okName x = true) (he : Ex g.P E e v)
  (h : ∀ s',GS g A' (setE E x (.val v)) ds r0 s' → Q .next s') (hs : swapsWith e (some (.Name x p)) sp.line g.env = pure false := by rfl) : wpAny g.C.M A' (exec (.Assign [.Name x p] e sp) g.env) Q X s :=
 wpAny_Assign_Name (G.ev B O he fun w s' G' r _ => G'.I.store (B.fok O _) hx ho r fun s2 S2 st fk => h s2 (G'.step S2 fk.ko st.tup)) hs
theorem GS.test {t : Expr} {b o : List Stmt} {c : Bool} {sp : Pos} {Q : Flow → Shared → Prop} {X : Value → Shared → Prop} (B : GB g A T) (O : Ov A A' g.env) (G : GS g A' E ds r0 s) (ht : Xt g.P E t c)
  (h : ∀ s',GS g A' E ds r0 s' → wpAny g.C.M A' (execs (if c then b else o) g.env) Q X s') : wpAny g.C.M A' (exec (.If t b o sp) g.env) Q X s :=
 wpAny_If (ht _ _ s (B.fok O _) G.I _ _ fun s' k => by have := h _ (G.kp k); cases c <;> exact this)
theorem GS.turn {W : Addr → Prop} {h' : Heap} {tk : Nat} (B : GB g A T) (G : GS g A' E ds r0 s) (hk : ∀ b o,¬ W b → s.heap.get? b = some o → h'.get? b = some o) (hW : ∀ b,W b → g.sB.heap.get? b = none ∧ ∃ o vs,s.heap.get? b = some o ∧ o.data = .fields vs) (hd : Ks ds' { s with heap := h',toks := tk }) : GS g A' E ds' r0 { s with heap := h',toks := tk } := by
 have nW : ∀ b o,s.heap.get? b = some o → (∀ vs,o.data ≠ .fields vs) → ¬ W b := fun b o e n w => by
  obtain ⟨_,o',vs,e',d⟩ := hW b w
  rw [e] at e'; cases e'; exact n vs d
 have md : Md g.C.lo W s { s with heap := h',toks := tk } := ⟨fun b o e n => ⟨o,hk b o n e,Like.refl ..⟩,fun b o e n => ⟨o,hk b o (nW b o e n) e,n⟩,fun b o es ep e c d => ⟨o,es,ep,hk b o (nW b o e ((fun _ q => Data.noConfusion (d.symm.trans q)))) e,c,d⟩,rfl,GKeep.refl _⟩
 have hWr : ∀ b,W b → Wr g.P (g.f A' r0.gens) g.z s b := fun b w => by
  obtain ⟨n,o',vs,e',d⟩ := hW b w
  refine ⟨⟨On_none B.on n,.inr n⟩,fun o e => ?_⟩
  rw [e'] at e; obtain rfl := Option.some.inj e
  refine ⟨(fun _ q => Data.noConfusion (d.symm.trans q)),fun _ _ _ => by rw [d]; nofun,?_,.inr ⟨vs,d⟩,fun _ => by rw [d]; nofun⟩
  rintro rfl
  obtain ⟨m,o,_,_,e,d2,_⟩ := G.I.ns
  have e : s.heap.get? g.env.locals = some o := e
  rw [e'] at e; obtain rfl := Option.some.inj e; rw [d] at d2; cases d2
 have S' := G.I.move md hWr (.refl (Wr.stable (z' := g.z) md hWr fun _ => .inl)) (fun x e h => .inl ⟨h,rfl,fun l => (by
  obtain ⟨_,_,_,o,e,r⟩ := (G.I.er x e h).live l
  exact nW _ o e r.ob.s.nd),fun T fin q => ⟨rfl,rfl,fun b p => (by
  subst q
  obtain ⟨o,e,so⟩ := (G.I.er x _ h).tree.L.ob p
  exact nW _ o e so.s.nd)⟩⟩) G.I.ij
 have tk' : TupKeep s.heap h' := fun b o vs n e _ d => hk b o (nW b o e ((fun _ q => Data.noConfusion (d.symm.trans q)))) e
 obtain ⟨acc,c,eS⟩ := G.Sx
 have sS := hk _ _ (nW _ _ eS (fun _ q => Data.noConfusion q)) eS
 exact ⟨S',hd,⟨⟨fun b o e => S'.md.heap b o e id,S'.md.os,G.g0.trans S'.md.gens⟩,fun o e k => by
  have e2 := G.a.sS o e k
  rw [eS] at e2; obtain rfl := Option.some.inj e2; exact sS,fun b o vs n e c d => tk' _ _ _ _ (G.a.tk _ _ _ _ e c d) c d,S'.md.gens⟩,⟨acc,c,sS⟩,G.g0⟩
theorem GS.wake (B : GB g A T) (G : GS g A' E ds r0 s) (P : Pk g.S g.sB s s') (dS : ∀ p ∈ ds,p.1 ≠ g.S) : GS g A' E ds s' s' := by
 refine byG fun G9 k9 => ?_
 obtain ⟨acc,c,eS⟩ := G.Sx
 obtain ⟨acc',c',eS'⟩ := P.sx
 refine k9 ?_
 clear k9 G9
 have md : Md g.C.lo (· = g.S) s { s' with gens := s.gens } := ⟨fun b o e n => ⟨o,P.keep b o n e,Like.refl ..⟩,fun b o e n => (by
  by_cases hb : b = g.S
  ·exact ⟨listO acc' c',hb ▸ eS',(fun _ q => Data.noConfusion q)⟩
  ·exact ⟨o,P.keep b o hb e,n⟩),fun b o es ep e c d => (by
  refine ⟨o,es,ep,P.keep b o ?_ e,c,d⟩
  rintro rfl; rw [eS] at e; obtain rfl := Option.some.inj e; cases d),P.os,GKeep.refl _⟩
 have hW : ∀ b,b = g.S → Wr g.P (g.f A' r0.gens) g.z s b := by
  rintro b rfl
  refine ⟨⟨On_none B.on B.hS,.inr B.hS⟩,fun o e => ?_⟩
  rw [eS] at e; obtain rfl := Option.some.inj e
  exact ⟨(fun _ q => Data.noConfusion q),nofun,B.SL,.inl (.inr rfl),fun c => by simp [listO] at c⟩
 have S1 := G.I.move (s' := { s' with gens := s.gens }) md hW (.refl (Wr.stable (z' := g.z) md hW fun _ => .inl)) (fun x e h => .inl ⟨h,rfl,fun l q => (by
  exact ((G.I.er x e h).live l).2.2.1.nc q),fun T fin q => ⟨rfl,rfl,fun b p w => (by
  subst q
  obtain ⟨o,e,so⟩ := (G.I.er x _ h).tree.L.ob p
  have w : b = g.S := w
  rw [w,eS] at e; obtain rfl := Option.some.inj e
  exact so.c.1 rfl)⟩⟩) G.I.ij
 have S2 : St g.P (g.f A' s'.gens) g.z E s' := ⟨S1.on,⟨S1.rm.depth,S1.rm.units,S1.rm.fr⟩,⟨S1.md.heap,S1.md.nf,S1.md.fr,S1.md.os,GKeep.refl _⟩,S1.lt,S1.lb,S1.ll,S1.lu,S1.ns,S1.oc,fun x e h => EA.as (A := A') (A' := A') (un := true) (un' := true) (s₀ := { g.sB with gens := r0.gens }) (s₀' := { g.sB with gens := s'.gens }) rfl (S1.er x e h),S1.ij,S1.zt⟩
 exact ⟨S2,fun p hp => ⟨P.keep _ _ (dS p hp) (G.K p hp).1,(G.K p hp).2⟩,⟨⟨fun b o e => S2.md.heap b o e id,S2.md.os,P.g⟩,fun o e _ => e,fun _ _ _ _ e _ _ => e,GKeep.refl _⟩,⟨acc',c',eS'⟩,P.g⟩
end
end
section
noncomputable def gS (k : Nat) : Stmt := (mBd 2 5).getD k default
noncomputable def fB : Stmt → List Stmt
 | .For _ _ b _ _ => b
 | _ => []
noncomputable def fT : Stmt → Expr
 | .For t _ _ _ _ => t
 | _ => .Name "" ⟨0,0,0,0⟩
noncomputable def ifB : Stmt → List Stmt
 | .If _ b _ _ => b
 | _ => []
noncomputable def gIn : Stmt := (ifB ((fB (gS 3)).getD 3 default)).getD 0 default
theorem rd_hitT {h : Heap} {lv : Addr → Prop} {v : Value} {k : List Int × Int} (r : Rd h lv v (hitD k)) : RdT h v (hitD k) := rd_tupT r fun v d m r => by
 simp only [List.mem_cons,List.not_mem_nil,or_false] at m
 rcases m with rfl | rfl
 ·exact rd_wordT r
 ·exact rd_intT r
theorem sub_setR {G F : StE} {x : Str} {e : Ent} (h : ∀ y o,G y = some o → F y = some o) (hx : G x = none) : ∀ y o,G y = some o → setE F x e y = some o := fun y o q => by
 unfold setE
 split
 ·rename_i e; rw [e,hx] at q; cases q
 ·exact h y o q
theorem tuple_at {h : Heap} {a : Addr} {xs : List PyData} (r : RdT h (.ref a) (.tuple xs)) : ∃ vals,h.IsTuple a vals.toArray ∧ Rds h (fun _ => True) vals xs := by
 refine byG fun G9 k9 => ?_
 obtain ⟨_,vals,e,t,r⟩ := r.tuple_inv
 refine k9 ?_
 clear k9 G9
 cases e
 exact ⟨vals,t,r⟩
section
variable {g : Gn} {A A' : Around} {T : TS} {E E' : StE} {s s' r0 : Shared} {ds ds' : List (Addr × Obj)}
theorem GS.bindE {t : Expr} {d : PyData} {w : Value} {Q : Unit → Shared → Prop} {X : Value → Shared → Prop} (B : GB g A T) (O : Ov A A' g.env) (G : GS g A' E ds r0 s) (hb : Mine.bindE g.P t E d = some E') (r : Rd s.heap g.z.lv w d)
  (h : ∀ s',GS g A' E' ds r0 s' → TupKeep s.heap s'.heap → (∀ b o,s.heap.get? b = some o → Ko o → s'.heap.get? b = some o) → Q () s') : wpAny g.C.M A' (PySem.assign t g.env w) Q X s :=
 G.I.bindE (B.fok O _) rfl hb r fun s2 S2 st fk => h s2 (G.step S2 fk.ko st.tup) st.tup fk.ko
theorem GS.keeping (G : GS g A E ds r0 s) (K : Ks ds' s) : GS g A E ds' r0 s := ⟨G.I,K,G.a,G.Sx,G.g0⟩
theorem inner_loop (B : GB g A T) {G : StE} {c1 : Code} {kf : Result → Sem Fin} {l1 : List Value} {F0 : Frame} {pf : Pos} {it2 to : Addr} {outs : List (List Int)} {i : Nat} {rest : List (List Int × Int)}
  (O : Ov A (A.over (.forLoop (fT gIn) (.ref it2) (fB gIn) [] g.env) (.ret kf none false l1 c1 pf [] :: [F0])) g.env) (hgF : F0.guarded = false) (hsp : splitAtGen [F0] = none)
  (hG1 : G "keyword" = none) (hG2 : G "keyword_length" = none) (hGi : G "idx" = some (.val (.dat (.int i)))) (hol : outs.length ≤ 1000)
  (iB : g.sB.heap.get? it2 = none) (id' : ∀ p ∈ ds,p.1 ≠ it2) (dS : ∀ p ∈ ds,p.1 ≠ g.S)
  (after : ∀ s3 r1 F3,(∀ x o,G x = some o → F3 x = some o) → GS g (A.over (.forLoop (fT gIn) (.ref it2) (fB gIn) [] g.env) (.ret kf none false l1 c1 pf [] :: [F0])) F3 ds r1 s3 → SX g.C.M A c1 (kf (.ok .next)) [F0] s3 (YP g.C A g.S g.sB rest r1)) :
  ∀ (os : List (List Int)) (j : Nat) (s r0 : Shared) (F : StE),outs.drop j = os → (∀ x o,G x = some o → F x = some o) → GS g (A.over (.forLoop (fT gIn) (.ref it2) (fB gIn) [] g.env) (.ret kf none false l1 c1 pf [] :: [F0])) F ds r0 s → s.heap.IsTupleIter it2 to j → RdT s.heap (.ref to) (outsD outs) →
   SX g.C.M A (.forLoop (fT gIn) (.ref it2) (fB gIn) [] g.env) (denote table (.forLoop (fT gIn) (.ref it2) (fB gIn) [] g.env)) (.ret kf none false l1 c1 pf [] :: [F0]) s (YP g.C A g.S g.sB (os.map (fun k => (k,(i : Int) + 1 - k.length)) ++ rest) r0) := by
 intro os
 induction os with
 | nil =>
  intro j s r0 F hdr hF Gs hit hto
  refine byG fun G0 k0 => ?_
  obtain ⟨vals,ht,hr⟩ := tuple_at hto
  obtain ⟨oi,ei,ci,di⟩ := id hit
  refine k0 ?_
  have hvl := hr.length
  rw [List.length_map] at hvl
  have hj : outs.length ≤ j := by simpa using hdr
  refine sx_turn ?_
  refine wpAny_pyNext_tuple_end (O.hh B.hh) hit ht (by simp; omega) fun h1 he1 => ?_
  exact after _ _ F hF (Gs.turn (W := fun b => b = it2) (tk := s.toks) B (fun b o hb e => he1 b o hb e) (fun b hb => ⟨hb ▸ iB,oi,_,hb ▸ ei,di⟩) fun p hp => ⟨he1 _ _ (id' p hp) (Gs.K p hp).1,(Gs.K p hp).2⟩)
 | cons w os ih =>
  intro j s r0 F hdr hF Gs hit hto
  refine byG fun G0 k0 => ?_
  obtain ⟨vals,ht,hr⟩ := tuple_at hto
  have hj : j < outs.length := Nat.lt_of_not_le fun q => by rw [List.drop_eq_nil_of_le q] at hdr; cases hdr
  rw [List.drop_eq_getElem_cons hj] at hdr
  have hw1 := (List.cons.inj hdr).1
  have hw2 := (List.cons.inj hdr).2
  obtain ⟨vj,hvj,rj⟩ := hr.get (i := j) (d := oD w) (by rw [List.getElem?_map,List.getElem?_eq_getElem hj,hw1]; rfl)
  obtain ⟨oi,ei,ci,di⟩ := id hit
  refine k0 ?_
  refine sx_turn ?_
  refine wpAny_pyNext_tuple_item hit ht (by simpa using hvj) fun h1 hit1 hs1 => ?_
  refine byG fun G0 k0 => ?_
  obtain ⟨oi1,ei1,ci1,di1⟩ := id hit1
  refine k0 ?_
  have tk1 : TupKeep s.heap h1 := fun b o vs n e c d => (hs1.2 b (get_ne e ei d di nofun)).trans e
  have Gs1 := Gs.turn (h' := h1) (tk := s.toks) (W := fun b => b = it2) B (fun b o hb e => (hs1.2 b hb).trans e) (fun b hb => ⟨hb ▸ iB,oi,_,hb ▸ ei,di⟩) fun p hp => ⟨(hs1.2 _ (id' p hp)).trans (Gs.K p hp).1,(Gs.K p hp).2⟩
  refine letOwned ⟨oi1,_,_,ei1,ci1,di1,by decide⟩ ?_
  have rj1 : RdT h1 vj (oD w) := RdT.keep rj tk1
  let F5 := setE (setE F "keyword" (.val (.dat (wordD w)))) "keyword_length" (.val (.dat (.int w.length)))
  have iS : it2 ≠ g.S := let ⟨_,_,e⟩ := Gs1.Sx; get_ne ei1 e di1 rfl nofun
  have Gs1 := Gs1.keeping (ds' := (it2,oi1) :: ds) fun p hp => by
   rcases List.mem_cons.mp hp with rfl | hp
   ·exact ⟨ei1,.fields ci1 di1 (by decide)⟩
   ·exact Gs1.K p hp
  refine Gs1.bindE (E' := F5) (d := oD w) B O rfl (rd_t rj1) fun s5 Gs5 tk5 fk5 => ?_
  have hF5 : ∀ x o,G x = some o → F5 x = some o := sub_setR (sub_setR hF hG1) hG2
  intro K H hKH
  have hg2 : (([.ret kf none false l1 c1 pf [],F0] : List Frame)).any Frame.guarded = false := by show (false || (F0.guarded || false)) = false; rw [hgF]; rfl
  have hsp2 : splitAtGen [.ret kf none false l1 c1 pf [],F0] = none := by show (splitAtGen [F0]).map _ = none; rw [hsp]; rfl
  refine sx_execs_cons (sx_yield (fn_inter (B.fok O r0.gens)) rfl B.co hsp2 hg2 rfl ?_)
  refine Gs5.ev B O (v := .dat (hitD (w,(i : Int) + 1 - w.length))) (r_tuple (ds := [wordD w,.int ((i : Int) + 1 - w.length)]) (vs_cons (n_val rfl) rfl (vs_cons (r_bin (a := .int ((i : Int) + 1)) (b := .int w.length) (d_of (r_bin (a := .int i) (b := .int 1) (d_of (n_val (hF5 _ _ hGi))) (d_of r_int) rfl)) (d_of (n_val rfl)) rfl) rfl vs_nil)) rfl) fun v s6 Gs6 rv tk6 => ?_
  intro kk lk pk hkk
  refine ⟨_,lk,kk,_,pk,_,rfl,rd_hitT rv,Gs6.a,fun s9 hpk => ?_⟩
  have Gw := Gs6.wake B hpk fun p hp => by
   rcases List.mem_cons.mp hp with rfl | hp
   ·exact iS
   ·exact dS p hp
  exact hkk s9 _ ((hKH s9 _ (ih (j + 1) s9 s9 _ hw2 hF5 (Gw.keeping fun p hp => Gw.K p (List.mem_cons_of_mem _ hp)) ⟨oi1,(Gw.K (it2,oi1) List.mem_cons_self).1,ci1,di1⟩ (RdT.keep (h' := s9.heap) hto fun b o vs n e c d => hpk.tup _ _ _ _ (tk6 _ _ _ _ (tk5 _ _ _ _ (tk1 _ _ _ _ e c d) c d) c d) c d))).1)
end
end
section
section
variable {P : Pr} {f : Fx} {z : Lc} {E : StE} {s : Shared} {T : TS} {fin : Bool} {n : PNd} {i : Nat} {c : Int}
theorem look_val {C : Cx} {h : Heap} {z : Lc} {tr : List (Int × Nat)} {kvs : List (Int × Value)} (al : All2 (TabR z.ad) tr kvs) : VR C h z (refN (lookI c tr)) ((valueAt kvs c).getD .none) := by
 obtain ⟨h1,h2⟩ := tab_value (c := c) al
 cases hl : lookI c tr with
 | none => rw [h2 hl]; exact rd_none
 | some j => obtain ⟨a,ha,e⟩ := h1 j hl; rw [e]; exact ⟨a,ha,rfl⟩
theorem r_get {e y : Expr} {ap cp : Pos} (hT : E "" = some (.tr T fin)) (h1 : Ex P E e (.tab i)) (h2 : Ex P E y (.dat (.int c))) (hn : T.T[i]? = some n) (hst : noStar y = true) (hline : (ap.endLine == cp.line) = true)
  (hbase : ∀ env,attributeBase e "get" env (eval e env) = eval e env := by intro _; rfl) : Ex P E (.Call (.Attribute e "get" ap) [y] [] cp) (refN (lookI c n.tr)) := fun f z s ok S Q X q => by
 refine call_attr (hbase f.env) (by rw [star_cons hst]; rfl) hline (h1 f z s ok S _ _ fun v s1 k1 r pl => ?_)
 have S1 := S.kp k1
 refine byG fun G9 k9 => ?_
 obtain ⟨a,kvs,rfl,ha,hd,al,hsys⟩ := (S1.er _ _ hT).tree.tab hn r
 obtain ⟨o0,es0,ep0,e0,xd0,d0,_⟩ := id hd
 refine k9 ?_
 clear k9 G9
 refine getMethod_builtin ⟨o0,e0,xd0.1⟩ PySem.F.plainAttrs_dict PySem.F.slot_dict_get PySem.F.type_dict_get (fun b q => by cases q; exact ⟨o0,e0,xd0.2.1⟩) ?_
 refine callWith_args S1.on keep_builtin (by rw [List.all_cons,hst]; rfl) (args_one hst (h2 f z s1 ok S1 _ _ fun v2 s2 k2 r2 => ?_))
 refine byG fun G9 k9 => ?_
 obtain ⟨t,rfl⟩ := Rd.int_inv r2
 have S2 := S1.kp k2
 obtain ⟨a2,kvs,e,ha2,hd,al,hsys⟩ := (S2.er _ _ hT).tree.tab hn (r.kp k2)
 refine k9 ?_
 clear k9 G9
 rw [ha] at ha2; obtain rfl := Option.some.inj ha2
 exact ⟨S2.on,call_meetsIn PySem.F.slot_dict_get hd.typeIs PySem.F.entry_dict_get (PySem.F.args_dict_get_2 _ _) (meets_dict_get (intKind P.C.prog P.C.w) a.tab (k := c) intKey hsys) ⟨_,hd.mapOf,q _ _ ((k1.trans k2).trans (Kp.of_keep fun _ _ e => e)) (look_val al)⟩⟩
end
section
variable {g : Gn} {A A' : Around} {T : TS} {E E' : StE} {s s' r0 : Shared} {ds ds' : List (Addr × Obj)}
theorem keep_meth {C : Cx} {pm tab : Addr} : ∀ h : Heap,h.get? pm = some (getMeth tab) → ∃ k,(k = Keeper.frame ∨ k = Keeper.machine ∨ k = Keeper.boundFrame) ∧ Looks C.M h (keeperOf (.ref pm)) k := by
 intro h e
 refine ⟨.machine,.inr (.inl rfl),fun A Q E s k q => ?_⟩
 unfold keeperOf
 exact wpAny_bind (wpAny_load (k _ _ e) (wpAny_pure q))
theorem GS.assignGet {x y z : Str} {zp xp yp cp sp : Pos} {pm : Addr} {i : Nat} {a : Ad} {n : PNd} {c : Int} {Q : Flow → Shared → Prop} {X : Value → Shared → Prop} (B : GB g A T) (O : Ov A A' g.env) (G : GS g A' E ds r0 s) (hT : E "" = some (.tr T true)) (hz : isLC (mNm 2 5) z = true) (ho : okName z = true)
  (hFx : E x = some (.val (.raw (.ref pm)))) (hFy : E y = some (.val (.dat (.int c)))) (hpm : (pm,getMeth a.tab) ∈ ds) (ha : g.ad[i]? = some a) (hn : T.T[i]? = some n)
  (h : ∀ s',GS g A' (setE E z (.val (refN (lookI c n.tr)))) ds r0 s' → Q .next s') (hs : swapsWith (.Call (.Name x xp) [.Name y yp] [] cp) (some (.Name z zp)) sp.line g.env = pure false := by rfl) :
  wpAny g.C.M A' (exec (.Assign [.Name z zp] (.Call (.Name x xp) [.Name y yp] [] cp) sp) g.env) Q X s := by
 refine wpAny_Assign_Name (Call_ (G.I.nm (B.fok O _) hFx ?_)) hs
 refine callWith_of (P := fun h => h.get? pm = some (getMeth a.tab)) rfl keep_meth (Calls.evalArgs_plain (args_one rfl (G.ev B O (n_val hFy) fun w s1 G1 r1 _ => ?_)))
 refine byG fun G9 k9 => ?_
 obtain ⟨t,rfl⟩ := Rd.int_inv r1
 obtain ⟨a2,kvs,_,ha2,hd,al,hsys⟩ := (G1.I.er _ _ hT).tree.tab hn (w := .ref a.tab) ⟨a,ha,rfl⟩
 refine k9 ?_
 clear k9 G9
 have ha2 : g.ad[i]? = some a2 := ha2
 rw [ha] at ha2; obtain rfl := Option.some.inj ha2
 refine byG fun G9 k9 => ?_
 obtain ⟨o0,es0,ep0,e0,xd0,d0,_⟩ := id hd
 refine k9 ?_
 clear k9 G9
 have hp := (G1.K _ hpm).1
 refine ⟨hp,call_getMeth (knd := intKind g.C.prog g.C.w) (k := c) hp hd.mapOf intKey hsys ⟨o0,es0,ep0,e0,xd0.1,d0⟩ ?_⟩
 have G2 := G1.kp (Kp.tok (lo := g.C.lo) (tk := s1.toks + 1))
 exact G2.I.store (B.fok O _) hz ho (look_val al) fun s2 S2 st fk => h s2 (G2.step S2 fk.ko st.tup)
noncomputable def stepGo (T : List PNd) (cur : Nat) (c : Int) : Option Nat := match T[cur]?,T[0]? with
 | some n,some z => if cur = 0 then lookI c z.tr else (lookI c n.tr).or (lookI c z.tr)
 | _,_ => none
noncomputable def gIf : Stmt := (fB (gS 3)).getD 0 default
theorem gen_if (B : GB g A T) (O : Ov A A' g.env) {pm : Addr} {cur : Nat} {n z : PNd} {a0 : Ad} {c : Int} {Q : Flow → Shared → Prop} {X : Value → Shared → Prop} (G : GS g A' E ds r0 s) (hT : E "" = some (.tr T true)) (hz : E "zero_state" = some (.val (.nd 0))) (hg : E "zero_transitions_get" = some (.val (.raw (.ref pm)))) (hc : E "current_state" = some (.val (.nd cur))) (hs : E "symbol" = some (.val (.dat (.int c))))
  (hpm : (pm,getMeth a0.tab) ∈ ds) (ha0 : g.ad[0]? = some a0) (hn : T.T[cur]? = some n) (hz0 : T.T[0]? = some z)
  (h1 : ∀ j s',stepGo T.T cur c = some j → GS g A' (setE E "next_state" (.val (.nd j))) ds r0 s' → Q .next s')
  (h2 : ∀ s' E',stepGo T.T cur c = none → E' = setE E "next_state" (.val (.dat .none)) ∧ cur = 0 ∨ E' = setE (setE E "next_state" (.val (.dat .none))) "current_state" (.val (.nd 0)) → GS g A' E' ds r0 s' → Q .cont s') :
  wpAny g.C.M A' (exec gIf g.env) Q X s := by
 refine G.test B O (c := decide (cur = 0)) (t_is hT (n_val hc) (n_val hz) (.nd cur 0) rfl) fun s1 G1 => ?_
 by_cases h0 : cur = 0
 ·rw [decide_eq_true h0]
  subst h0
  rw [hz0] at hn; cases hn
  have hst : stepGo T.T 0 c = lookI c n.tr := by unfold stepGo; rw [hz0]; exact if_pos rfl
  refine wpAny_execs_cons (G1.assignGet B O hT rfl rfl hg hs hpm ha0 hz0 fun s2 G2 => ?_)
  refine wpAny_execs_cons (G2.test B O (t_is (T := T) (fin := true) hT (n_val (v := refN (lookI c n.tr)) rfl) r_none (isV_ref _) rfl) fun s3 G3 => ?_)
  cases hl : lookI c n.tr with
  | none =>
   rw [hl] at G3 hst
   exact wpAny_execs_cons (wpAny_Continue (h2 s3 _ hst (.inl ⟨rfl,rfl⟩) G3))
  | some j =>
   rw [hl] at G3 hst
   exact wpAny_execs_nil (wpAny_execs_nil (h1 j s3 hst G3))
 ·rw [decide_eq_false h0]
  have hst : stepGo T.T cur c = (lookI c n.tr).or (lookI c z.tr) := by unfold stepGo; rw [hz0,hn]; exact if_neg h0
  refine wpAny_execs_cons (G1.assign B O (x := "next_state") rfl rfl (r_get hT (r_slot (B.kn.sl (slot_tr _)) hT (n_val hc) hn rfl) (n_val hs) hn rfl rfl) fun s2 G2 => ?_)
  refine wpAny_execs_cons (G2.test B O (t_is (T := T) (fin := true) hT (n_val (v := refN (lookI c n.tr)) rfl) r_none (isV_ref _) rfl) fun s3 G3 => ?_)
  cases hl : lookI c n.tr with
  | some j =>
   rw [hl] at G3 hst
   exact wpAny_execs_nil (wpAny_execs_nil (h1 j s3 hst G3))
  | none =>
   rw [hl] at G3 hst
   refine wpAny_execs_cons (G3.assignGet B O (E := setE E "next_state" (.val (.dat .none))) hT rfl rfl hg hs hpm ha0 hz0 fun s4 G4 => ?_)
   rw [setE_same] at G4
   refine wpAny_execs_cons (G4.test B O (t_is (T := T) (fin := true) hT (n_val (v := refN (lookI c z.tr)) rfl) r_none (isV_ref _) rfl) fun s5 G5 => ?_)
   cases hl2 : lookI c z.tr with
   | some j =>
    rw [hl2] at G5 hst
    exact wpAny_execs_nil (wpAny_execs_nil (wpAny_execs_nil (h1 j s5 hst G5)))
   | none =>
    rw [hl2] at G5 hst
    refine wpAny_execs_cons (G5.assign B O (x := "current_state") rfl rfl (n_val (x := "zero_state") (v := .nd 0) hz) fun s6 G6 => ?_)
    exact wpAny_execs_cons (wpAny_Continue (h2 s6 _ hst (.inr rfl) G6))
end
end
section
noncomputable def OutsOk (T : List PNd) : Prop := ∀ (i : Nat) (c : Int) (n : PNd) (j : Nat),T[i]? = some n → lookI c n.tr = some j → j ≠ 0 ∧ ∃ nj l,T[j]? = some nj ∧ nj.outs = some l ∧ l.length ≤ 900
theorem goT_step {T : List PNd} {cur : Nat} {c : Int} {n z : PNd} (hn : T[cur]? = some n) (hz : T[0]? = some z) : goT T cur c = (stepGo T cur c).getD 0 := by
 unfold goT stepGo
 rw [hn,hz]
 dsimp only
 by_cases h0 : cur = 0
 ·subst h0
  rw [hz] at hn; cases hn
  simp only [if_true]
  cases lookI c n.tr <;> rfl
 ·rw [if_neg h0]
  cases lookI c n.tr <;> rfl
theorem stepGo_ok {T : List PNd} {cur : Nat} {c : Int} {j : Nat} (hO : OutsOk T) (h : stepGo T cur c = some j) : j ≠ 0 ∧ ∃ nj l,T[j]? = some nj ∧ nj.outs = some l ∧ l.length ≤ 900 := by
 unfold stepGo at h
 split at h
 ·rename_i n z hn hz
  split at h
  ·exact hO _ c _ j hz h
  ·cases hl : lookI c n.tr with
   | some k => rw [hl] at h; obtain rfl := Option.some.inj h; exact hO _ c _ _ hn hl
   | none => rw [hl] at h; exact hO _ c _ j hz h
 ·cases h
theorem sub_none {F : StE} : ∀ x o,(fun _ : Str => (none : Option Ent)) x = some o → F x = some o := fun _ _ h => (Option.some_ne_none _ h.symm).elim
theorem sub_setE {G F : StE} {x : Str} {e : Ent} (h : ∀ y o,G y = some o → F y = some o) (hx : F x = some e) : ∀ y o,setE G x e y = some o → F y = some o := fun y o q => by
 unfold setE at q
 split at q
 ·rename_i e; rw [e,← q]; exact hx
 ·exact h y o q
theorem truth_outs {l : List (List Int)} (h : l.length ≤ 1000) : truthD (outsD l) = some (!l.isEmpty) := by
 unfold truthD outsD
 dsimp only
 rw [List.length_map,if_pos (show fits l.length = true from decide_eq_true (Nat.lt_of_le_of_lt h (by decide)))]
 cases l <;> rfl
section
variable {g : Gn} {A A' : Around} {T : TS} {E E' : StE} {s s' r0 : Shared} {ds ds' : List (Addr × Obj)}
inductive Fp : List (Addr × Obj) → Prop
 | nil : Fp []
 | cons {p : Addr × Obj} {ds : List (Addr × Obj)} {vs : Array Value} (h : p.2.data = .fields vs) (r : Fp ds) : Fp (p :: ds)
theorem Fp.ne {h : Heap} {b : Addr} {o : Obj} {vs : Array Value} {n : Nat} (e : h.get? b = some o) (d : o.data = .seq vs n) {ds : List (Addr × Obj)} (F : Fp ds) (k : ∀ p ∈ ds,h.get? p.1 = some p.2) : ∀ p ∈ ds,p.1 ≠ b := by
 induction F with
 | nil => exact fun _ q => (List.not_mem_nil q).elim
 | cons hd _ ih => exact fun p hp => (List.mem_cons.mp hp).elim (fun q => q ▸ get_ne (k _ List.mem_cons_self) e hd d nofun) (ih (fun p m => k p (List.mem_cons_of_mem _ m)) p)
theorem IsTup.ne {h : Heap} {a b : Addr} {vs : Array Value} (t : IsTup h a vs) (e : h.get? b = none) : a ≠ b := let ⟨_,e',_⟩ := t; (none_ne e e').symm
theorem IsTup.kp' {lo : Nat} {s s' : Shared} {a : Addr} {vs : Array Value} (t : IsTup s.heap a vs) (k : Kp lo s s') : s'.heap.IsTuple a vs := let ⟨o,e,c,n,d⟩ := t; ⟨o,k.get e (ne_tf c),c,n,d⟩
theorem outer_loop (B : GB g A T) (hO : OutsOk T.T) {body : List Stmt} {e it1 tw pm : Addr} {a0 : Ad} {z : PNd} {text : List Int} {vals : List Value} {kf0 : Result → Sem Fin} {l0 : List Value} {p0 : Pos}
  (ha0 : g.ad[0]? = some a0) (hz0 : T.T[0]? = some z) (hvals : vals.length = text.length) (hv : ∀ (i : Nat) c,text[i]? = some c → ∃ t,vals[i]? = some (.int c t)) (htw : IsTup g.sB.heap tw vals.toArray)
  (eB : g.sB.heap.get? e = none) (iB : g.sB.heap.get? it1 = none) (ei : e ≠ it1) (me : pm ≠ e) (mi : pm ≠ it1)
  (after : ∀ s3 r1 F3,GS g (A.over (.forLoop (fT (gS 3)) (.ref e) (fB (gS 3)) [] g.env) [.ret kf0 none false l0 (.func body g.env) p0 []]) F3 [(pm,getMeth a0.tab)] r1 s3 → SX g.C.M A (.func body g.env) (kf0 (.ok .next)) [] s3 (YP g.C A g.S g.sB [] r1)) :
  ∀ (rest : List Int) (i cur : Nat) (s r0 : Shared) (F : StE),text.drop i = rest → i ≤ text.length → F "" = some (.tr T true) → F "zero_state" = some (.val (.nd 0)) → F "zero_transitions_get" = some (.val (.raw (.ref pm))) → F "current_state" = some (.val (.nd cur)) → GS g (A.over (.forLoop (fT (gS 3)) (.ref e) (fB (gS 3)) [] g.env) [.ret kf0 none false l0 (.func body g.env) p0 []]) F [(pm,getMeth a0.tab)] r0 s → (∃ old,IsEnum s.heap e it1 i old) → s.heap.IsTupleIter it1 tw i →
   SX g.C.M A (.forLoop (fT (gS 3)) (.ref e) (fB (gS 3)) [] g.env) (denote table (.forLoop (fT (gS 3)) (.ref e) (fB (gS 3)) [] g.env)) [.ret kf0 none false l0 (.func body g.env) p0 []] s (YP g.C A g.S g.sB (srchT T.T i cur rest) r0) := by
 have O1 : Ov A (A.over (.forLoop (fT (gS 3)) (.ref e) (fB (gS 3)) [] g.env) [.ret kf0 none false l0 (.func body g.env) p0 []]) g.env := ov_for
 have hne : tw ≠ it1 := IsTup.ne htw iB
 have hte : tw ≠ e := IsTup.ne htw eB
 have W := WalksT.enumerateD (draws_tuple (prog := g.C.prog) (w := g.C.w) (A := (A.over (.forLoop (fT (gS 3)) (.ref e) (fB (gS 3)) [] g.env) [.ret kf0 none false l0 (.func body g.env) p0 []]).in1) (O1.hh B.hh) it1 tw hne vals.toArray) e ei (by simp [ei,Ne.symm hte]) (by simp)
 have htup : ∀ {s : Shared},Kp g.C.lo g.sB s → s.heap.IsTuple tw vals.toArray := fun k => IsTup.kp' htw k
 have hsz : vals.toArray.size = text.length := by simp; exact hvals
 rw [hsz] at W
 have hWf : ∀ {s : Shared} {i : Nat},(∃ old,IsEnum s.heap e it1 i old) → s.heap.IsTupleIter it1 tw i → ∀ b,(b = e ∨ b = it1) → g.sB.heap.get? b = none ∧ ∃ o vs,s.heap.get? b = some o ∧ o.data = .fields vs := by
  rintro s i ⟨old,he⟩ ⟨oi,ei',ci,di⟩ b hb
  exact hb.elim (fun q => q ▸ ⟨eB,_,_,he,rfl⟩) fun q => q ▸ ⟨iB,oi,_,ei',di⟩
 intro rest
 induction rest with
 | nil =>
  intro i cur s r0 F hdr hil hT hFz hFg hFc Gs he hit
  have hi : i = text.length := Nat.le_antisymm hil (by simpa using hdr)
  subst hi
  refine sx_turn ?_
  refine W.done s _ _ ⟨he,hit,htup Gs.a.k0⟩ fun h1 tk1 hk1 => ?_
  have keep1 : ∀ b o,¬ (b = e ∨ b = it1) → s.heap.get? b = some o → h1.get? b = some o := fun b o hb eb => hk1 b o (by simpa using hb) eb
  refine after _ _ F (Gs.turn (W := fun b => b = e ∨ b = it1) B keep1 (hWf he hit) fun p hp => ?_)
  rw [List.mem_singleton] at hp; subst hp
  exact ⟨keep1 _ _ (fun q => q.elim me mi) (Gs.K _ List.mem_cons_self).1,(Gs.K _ List.mem_cons_self).2⟩
 | cons c rest ih =>
  intro i cur s r0 F hdr hil hT hFz hFg hFc Gs he hit
  have hi : i < text.length := Nat.lt_of_not_le fun q => by rw [List.drop_eq_nil_of_le q] at hdr; cases hdr
  rw [List.drop_eq_getElem_cons hi] at hdr
  obtain ⟨hc0,hc2⟩ := List.cons.inj hdr
  have hc1 : text[i]? = some c := by rw [List.getElem?_eq_getElem hi,hc0]
  refine sx_turn ?_
  refine W.item i s _ _ hi ⟨he,hit,htup Gs.a.k0⟩ fun Tt vT h1 tk1 hPt hge hTt hMid hk1 => ?_
  refine W.go _ _ _ i Tt _ _ _ hMid fun h2 hSt2 hk2 => ?_
  have hTt2 : ∃ tx tc,h2.IsTuple Tt #[.int i tx,.int c tc] := by
   refine byG fun G9 k9 => ?_
   obtain ⟨tx,x,hx,rfl⟩ := hPt
   obtain ⟨tc,hxc⟩ := hv i c hc1
   have hx' : vals[i]? = some x := by simpa using hx
   obtain ⟨o,eo,r⟩ := hTt
   refine k9 ?_
   clear k9 G9
   exact ⟨tx,tc,o,hk2 _ _ (W.apart i Tt h1 hMid) eo,by rw [← Option.some.inj (hx'.symm.trans hxc)]; exact r⟩
  refine byG fun G0 k0 => ?_
  obtain ⟨tx,tc,hTt2⟩ := hTt2
  obtain ⟨he2,hit2,htup2⟩ := hSt2
  have keep2 : ∀ b o,¬ (b = e ∨ b = it1) → s.heap.get? b = some o → h2.get? b = some o := fun b o hb eb => hk2 b o (by simpa using hb) (hk1 b o (by simpa using hb) eb)
  obtain ⟨old2,he2⟩ := he2
  obtain ⟨oi2,ei2,ci2,di2⟩ := hit2
  refine k0 ?_
  let eo : Obj := { cls := .type "enumerate",dict := none,data := .fields #[.none,.bool false,.ref it1,rawInt ((i + 1 : Nat) : Int),.none,old2],slots := #[] }
  have Gs2 := Gs.turn (h' := h2) (tk := tk1) (W := fun b => b = e ∨ b = it1) (ds' := [(pm,getMeth a0.tab),(e,eo),(it1,oi2)]) B keep2 (hWf he hit) fun p hp => by
   simp only [List.mem_cons,List.not_mem_nil,or_false] at hp
   rcases hp with rfl | rfl | rfl
   ·exact ⟨keep2 _ _ (fun q => q.elim me mi) (Gs.K _ List.mem_cons_self).1,(Gs.K _ List.mem_cons_self).2⟩
   ·exact ⟨he2,.fields (n := "enumerate") rfl rfl (by decide)⟩
   ·exact ⟨ei2,.fields ci2 di2 (by decide)⟩
  let F2 := setE (setE F "idx" (.val (.dat (.int i)))) "symbol" (.val (.dat (.int c)))
  refine Gs2.bindE (E' := F2) (d := .tuple [.int i,.int c]) B O1 rfl (Rd.tuple (vs := [.int i tx,.int c tc]) hTt2 (.cons rd_int (.cons rd_int .nil))) fun s5 Gs5 _ _ => ?_
  intro K H hKH
  have back : ∀ cur' s' r1 F',GS g (A.over (.forLoop (fT (gS 3)) (.ref e) (fB (gS 3)) [] g.env) [.ret kf0 none false l0 (.func body g.env) p0 []]) F' [(pm,getMeth a0.tab),(e,eo),(it1,oi2)] r1 s' → F' "" = some (.tr T true) → F' "zero_state" = some (.val (.nd 0)) → F' "zero_transitions_get" = some (.val (.raw (.ref pm))) → F' "current_state" = some (.val (.nd cur')) →
    SX g.C.M A (.forLoop (fT (gS 3)) (.ref e) (fB (gS 3)) [] g.env) (K .next) [.ret kf0 none false l0 (.func body g.env) p0 []] s' (YP g.C A g.S g.sB (srchT T.T (i + 1) cur' rest) r1) ∧
    SX g.C.M A (.forLoop (fT (gS 3)) (.ref e) (fB (gS 3)) [] g.env) (K .cont) [.ret kf0 none false l0 (.func body g.env) p0 []] s' (YP g.C A g.S g.sB (srchT T.T (i + 1) cur' rest) r1) := fun cur' s' r1 F' G' g0 g1 g2 g3 =>
   hKH s' _ (ih (i + 1) cur' s' r1 F' hc2 hi g0 g1 g2 g3 (G'.keeping fun p hp => by
    rw [List.mem_singleton] at hp; subst hp
    exact G'.K _ List.mem_cons_self) ⟨old2,(G'.K (e,eo) (.tail _ (.head _))).1⟩ ⟨oi2,(G'.K (it1,oi2) (.tail _ (.tail _ (.head _)))).1,ci2,di2⟩)
  have hcl : cur < T.T.length := by
   obtain ⟨_,_,acur,hacur,_⟩ := (Gs5.I.er _ _ (show F2 "current_state" = _ from hFc)).val
   rw [← B.L.th.len]; exact (List.getElem?_eq_some_iff.mp hacur).1
  have hncur := List.getElem?_eq_getElem hcl
  have hgo := goT_step (c := c) hncur hz0
  refine sx_stmt (gen_if B O1 Gs5 hT hFz hFg hFc rfl List.mem_cons_self ha0 hncur hz0 (fun j s7 hj G7 => ?_) fun s7 F7 hnone hF7 G7 => ?_)
  ·refine byG fun G0 k0 => ?_
   obtain ⟨hj0,nj,l,hnj,hlj,hll⟩ := stepGo_ok hO hj
   refine k0 ?_
   rw [hj] at hgo
   have hgo : goT T.T cur c = j := hgo
   have hout : outAt T.T j = l := by unfold outAt; rw [hnj]; dsimp only; rw [if_neg hj0,hlj]; rfl
   have hsr : srchT T.T i cur (c :: rest) = l.map (fun k => (k,(i : Int) + 1 - k.length)) ++ srchT T.T (i + 1) j rest := by show (outAt T.T (goT T.T cur c)).map _ ++ srchT T.T (i + 1) (goT T.T cur c) rest = _; rw [hgo,hout]
   rw [hsr]
   refine sx_stmt (G7.assign B O1 (x := "current_state") rfl rfl (n_val (x := "next_state") (v := .nd j) rfl) fun s8 G8 => ?_)
   refine sx_stmt (G8.assign B O1 (x := "outputs") rfl rfl (r_slot (v := .dat (outsD l)) (B.kn.sl (slot_outs _)) hT (n_val (v := .nd j) rfl) hnj (by show nj.outs.map _ = _; rw [hlj]; rfl)) fun s9 G9 => ?_)
   refine sx_execs_cons (sx_if (cnd := !l.isEmpty) ((Xt.plain (d_of (n_val (x := "outputs") (v := .dat (outsD l)) rfl)) (truth_outs (Nat.le_trans hll (by decide)))) _ _ s9 (B.fok O1 _) G9.I _ _ fun s10 k10 => ⟨rfl,?_⟩))
   have G10 := G9.kp k10
   by_cases hle : l = []
   ·rw [show (!l.isEmpty) = false by rw [hle]; rfl,show l.map (fun k => (k,(i : Int) + 1 - k.length)) ++ srchT T.T (i + 1) j rest = srchT T.T (i + 1) j rest by rw [hle]; rfl]
    exact sx_execs_nil (sx_execs_nil (back j _ _ _ G10 hT hFz hFg rfl).1)
   ·rw [show (!l.isEmpty) = true by cases l with | nil => exact absurd rfl hle | cons a b => rfl]
    refine sx_execs_cons (sx_for (fun _ => rfl) ?_)
    refine G10.ev B O1 (n_val (x := "outputs") (v := .dat (outsD l)) rfl) fun vo s11 G11 ro _ => ?_
    have ro : RdT s11.heap vo (outsD l) := rd_outsT ro
    refine byG fun G0 k0 => ?_
    obtain ⟨to,vso,ho,hto,hro⟩ := ro.tuple_inv
    refine k0 ?_
    rw [ho] at ro
    rw [ho]
    have hto' : s11.heap.IsTuple to vso.toArray := hto
    refine wpAny_pyIter_tuple hto' ?_
    intro kf g' l' pp hkf hg'
    subst hg'
    have hnone : s11.heap.get? s11.heap.objs.size = none := get_none_size _
    have nB := noneKp G11.a.k0 hnone
    have nd : ∀ p ∈ [(pm,getMeth a0.tab),(e,eo),(it1,oi2)],p.1 ≠ s11.heap.objs.size := fun p hp q => by
     have := (G11.K p hp).1
     rw [q,hnone] at this; cases this
    have dS : ∀ p ∈ [(pm,getMeth a0.tab),(e,eo),(it1,oi2)],p.1 ≠ g.S := by
     obtain ⟨acc,ca,eS⟩ := G11.Sx
     exact Fp.ne eS rfl (.cons rfl (.cons rfl (.cons di2 .nil))) fun p hp => (G11.K p hp).1
    have k12 : Kp g.C.lo s11 { s11 with heap := s11.heap.push { cls := .type "tuple_iterator",data := .fields #[.ref to,.int 0 0] } } := Kp.push'
    have G12 := (G11.kp k12).as O1 (ov_for2 (t := fT gIn) (it := .ref s11.heap.objs.size) (b := fB gIn) (k' := kf) (g' := false) (l' := l') (t' := fT (gS 3)) (it' := .ref e) (b' := fB (gS 3)) (p' := pp) (k := kf0) (g := false) (l := l0) (body := body) (p := p0))
    have hit : (s11.heap.push { cls := .type "tuple_iterator",data := .fields #[.ref to,.int 0 0] }).IsTupleIter s11.heap.objs.size to 0 := ⟨_,Heap.get?_push_size _ rfl,rfl,rfl⟩
    generalize s11.heap.objs.size = it2 at nB nd G12 hit
    let GG : StE := setE (setE (setE (setE (setE (fun _ => none) "" (.tr T true)) "zero_state" (.val (.nd 0))) "zero_transitions_get" (.val (.raw (.ref pm)))) "current_state" (.val (.nd j))) "idx" (.val (.dat (.int i)))
    refine inner_loop B (G := GG) (outs := l) (i := i) (to := to) (ds := [(pm,getMeth a0.tab),(e,eo),(it1,oi2)]) ov_for2 rfl rfl rfl rfl rfl (Nat.le_trans hll (by decide)) nB nd dS (fun s3 r1 F3 hF3 G3 => ?_) l 0 _ _ _ rfl ?_ G12 hit (RdT.keep (h' := s11.heap.push _) ro fun b o vs n e c d => Heap.get?_push_of_some _ e)
    ·rw [hkf]
     exact sx_execs_nil (sx_execs_nil (back j _ _ _ (G3.as ov_for2 O1) (hF3 _ _ rfl) (hF3 _ _ rfl) (hF3 _ _ rfl) (hF3 _ _ rfl)).1)
    ·exact sub_setE (sub_setE (sub_setE (sub_setE (sub_setE sub_none hT) hFz) hFg) rfl) rfl
  ·rw [hnone] at hgo
   have hgo : goT T.T cur c = 0 := hgo
   have hout : outAt T.T 0 = [] := by unfold outAt; rw [hz0]; rfl
   have hsr : srchT T.T i cur (c :: rest) = srchT T.T (i + 1) 0 rest := by show (outAt T.T (goT T.T cur c)).map _ ++ srchT T.T (i + 1) (goT T.T cur c) rest = _; rw [hgo,hout]; rfl
   rw [hsr]
   rcases hF7 with ⟨rfl,hc0⟩ | rfl
   ·exact (back 0 s7 r0 _ G7 hT hFz hFg (hc0 ▸ hFc)).2
   ·exact (back 0 s7 r0 _ G7 hT hFz hFg rfl).2
end
end
section
theorem tkT {a b c : Heap} (x : TupKeep a b) (y : TupKeep b c) : TupKeep a c := fun p o vs n e cl d => y _ _ _ _ (x _ _ _ _ e cl d) cl d
section
variable {C : Cx} {R : Nat} {A : Around} {sB s s' r0 : Shared} {S : Addr} {E : Value → Shared → Prop}
noncomputable def GoS (C : Cx) (A : Around) (S : Addr) (sB : Shared) (gs : GenState) (hs : List (List Int × Int)) (s : Shared) : Prop := match gs with
 | .fresh c => SX C.M A c (denote table c) [] s (YP C A S sB hs s)
 | .suspended k _ c _ fs _ => SX C.M A c (k (.send .none)) fs s (YP C A S sB hs s)
 | _ => False
theorem resume_sx {α : Type} {g : Nat} {gs : GenState} {l : List Value} {k : GenResult → Sem α} {Q : α → Shared → Prop} {hs : List (List Int × Int)} (hg : s.gens[g]? = some gs) (hgo : GoS C A S sB gs hs (s.setGen g .running))
  (h : ∀ e s1,YP C A S sB hs (s.setGen g .running) e s1 → e.quiet = true → wpAny C.M A (k e.result) Q E (s1.setGen g e.genState)) : wpAny C.M A (.resume g (.send .none) l k) Q E s := by
 have conv : ∀ {c : Code} {t : Sem Fin} {fs : List Frame},SX C.M A c t fs (s.setGen g .running) (YP C A S sB hs (s.setGen g .running)) → SX C.M A c t fs (s.setGen g .running) (fun e s₁ => ∀ Γ p,Γ.In A → Sem.wp C.M Γ (k e.result) (fun a _ s' => Q a s') (fun e _ s' => E e s') p (s₁.setGen g e.genState)) := by
  intro c t fs x Γ p hc hΓ
  refine byG fun G9 k9 => ?_
  obtain ⟨e,s',hr,hq,hp⟩ := x Γ p hc hΓ
  refine k9 ?_
  clear k9 G9
  exact ⟨e,s',hr,hq,h e s' hp hq⟩
 cases gs with
 | fresh c => exact fun Γ p hΓ => PySem.W.X.wake_any α C.prog C.w hg (.inl ⟨rfl,rfl,rfl,rfl⟩) (fun Γ => Γ.In A) (fun _ h => h) (conv hgo) Γ p hΓ
 | suspended k₀ l₀ c₀ p₀ fs₀ cl => exact fun Γ p hΓ => PySem.W.X.wake_any α C.prog C.w hg (.inr ⟨k₀,l₀,p₀,cl,rfl,rfl⟩) (fun Γ => Γ.In A) (fun _ h => h) (conv hgo) Γ p hΓ
 | running => exact hgo.elim
 | finished => exact hgo.elim
theorem next_gen {a : Addr} {g : Nat} {gs : GenState} {hs : List (List Int × Int)} {Q : Option Value → Shared → Prop} (hh : A.handled = none) (hl : s.heap.NoLimit) (hroom : A.depth < recursionLimit) (hg : s.heap.IsGen a g) (hgs : s.gens[g]? = some gs) (hgo : GoS C A.in1 S sB gs hs (s.setGen g .running))
  (hY : ∀ h r v s1 gs',hs = h :: r → gs'.bare = true → RdT s1.heap v (hitD h) → Af C S sB (s.setGen g .running) s1 → (∀ s'',Pk S sB s1 s'' → GoS C A.in1 S sB gs' r s'') → Q (some v) (s1.setGen g gs'))
  (hN : ∀ s1,hs = [] → Af C S sB (s.setGen g .running) s1 → ∀ h',(∀ b o,s1.heap.get? b = some o → h'.get? b = some o) → Q none { s1.setGen g .finished with heap := h' }) : wpAny C.M A (pyNext (.ref a)) Q E s := by
 unfold pyNext
 refine wpAny_bind (wpAny_attempt (wpAny_callSpecial?_slot (name := Str.ofString "__next__") hg.typeIs slot_gen_next
  (wpAny_call_entry slot_gen_next hg.typeIs entry_gen_next ?_ (args_gen_next _))))
 show wpAny _ A.in1 (Builtin.Generator.genWake (.ref a) (.send .none)) _ _ s
 unfold Builtin.Generator.genWake
 refine wpAny_bind (wpAny_holding (wpAny_genNumber hg (wpAny_bind (wpAny_genState hgs ?_))))
 cases gs with
 | running => exact hgo.elim
 | finished => exact hgo.elim
 | _ =>
  refine wpAny_bind (wpAny_roomToWake hl hroom ?_)
  show wpAny _ A.in1 (.resume g (.send .none) [] _) _ _ s
  refine resume_sx hgs hgo fun e s1 hy hq => ?_
  cases hs with
  | nil =>
   obtain ⟨rfl,af⟩ := hy
   show wpAny _ A.in1 (newExc (.type "StopIteration") [] >>= _) _ _ _
   refine wpAny_bind ?_
   simp only [newExc,newTuple]
   refine wpAny_bind (wpAny_newObj_type ?_ (by size_fits))
   refine wpAny_bind (m := firstArgMember _ _) (wpAny_of_eq (a := Value.none) (by first | rfl | (simp only [firstArgMember]; rfl)) ?_)
   refine wpAny_newObj_type ?_ (by size_fits)
   simp only [raiseNew]
   refine wpAny_bind (wpAny_bind (wpAny_handled ?_))
   first | rw [show A.in1.handled = none from hh] | rw [hh]
   refine wpAny_throw ?_
   refine wpAny_bind (wpAny_isInstance (T := "StopIteration") (b := true) ⟨_,Heap.get?_push_size _ rfl,rfl⟩ isSubtype_stop ?_)
   exact wpAny_pure (hN s1 rfl af _ fun b o hb => Heap.get?_push_of_some _ (Heap.get?_push_of_some _ hb))
  | cons h r =>
   refine byG fun G9 k9 => ?_
   obtain ⟨v,l,k,c',p,fs',rfl,rd,af,nx⟩ := hy
   refine k9 ?_
   clear k9 G9
   exact wpAny_pure ⟨v,rfl,wpAny_pure (hY h r v s1 _ rfl (End.bare_of_quiet hq) rd af fun s'' pk => nx s'' pk)⟩
end
theorem gkeep_set {a b : Array GenState} {g : Nat} {x : GenState} (h : GKeep a b) (hg : a.size ≤ g) (hx : x.bare = true) : GKeep a (b.setIfInBounds g x) := by
 obtain ⟨h1,h2,h3⟩ := h
 refine ⟨by simpa using h1,fun k hk => ?_,fun hb y hy => ?_⟩
 ·rw [Array.getElem?_setIfInBounds]
  have : g ≠ k := by omega
  rw [if_neg this]; exact h2 k hk
 ·obtain ⟨i,hi,rfl⟩ := Array.mem_iff_getElem.mp hy
  have hi' : i < b.size := by simpa using hi
  have e := Array.getElem_setIfInBounds (xs := b) (i := g) (a := x) (j := i) hi'
  rw [e]
  split
  ·exact hx
  ·exact h3 hb _ (Array.getElem_mem hi')
noncomputable def HitV (h : Heap) (k : List Int × Int) (v : Value) : Prop := RdT h v (hitD k)
theorem All2.keepHit {h h' : Heap} {ks : List (List Int × Int)} {vs : List Value} (x : All2 (HitV h) ks vs) (ht : TupKeep h h') : All2 (HitV h') ks vs := x.imp fun _ _ r => RdT.keep r ht
section
variable {C : Cx} {R : Result → Shared → Prop} {A : Around} {sB s s' r0 : Shared} {S ga : Addr} {g : Nat}
theorem isGen_kp {lo : Nat} (k : Kp lo sB s) (h : sB.heap.IsGen ga g) : s.heap.IsGen ga g := by
 obtain ⟨o,nm,qn,e,c,r⟩ := h
 exact ⟨o,nm,qn,k.get e (by rw [c]; simp),c,r⟩
theorem extend_loop (hh : A.handled = none) (hroom : A.depth < recursionLimit) (onB : C.On sB) (hgB : sB.heap.IsGen ga g) (hgn : sB.gens.size ≤ g) (hSB : sB.heap.get? S = none) (res : Value) :
  ∀ (hs : List (List Int × Int)) (s : Shared) (done : List (List Int × Int)) (acc : Array Value) (c : Nat) (gs : GenState),Kp C.lo sB s → s.gens[g]? = some gs → (∀ s'',Pk S sB s s'' → GoS C A.in1.in1 S sB gs hs s'') → s.heap.get? S = some (listO acc c) → All2 (HitV s.heap) done acc.toList → done.length + hs.length ≤ 10 ^ 6 →
   (∀ s' acc' c',Kp C.lo sB s' → s'.heap.get? S = some (listO acc' c') → All2 (HitV s'.heap) (done ++ hs) acc'.toList → R (.ok (.ret res)) s') → codeAny C.M A (.builtin "list.extend.loop" ⟨[.ref S,.ref ga,res],[]⟩) R s := by
 intro hs
 induction hs with
 | nil =>
  intro s done acc c gs k0 hgs go hS hacc hz hR
  refine codeAny_builtin PySem.F.entry_extend_loop ?_
  rw [Around.under_plainId PySem.F.plain_extend_loop _]
  show wpAny _ A.in1 (pyNext (.ref ga) >>= _) _ _ s
  have pk : Pk S sB s (s.setGen g .running) := ⟨fun _ _ _ e => e,rfl,gkeep_set k0.gens hgn rfl,fun _ _ _ _ e _ _ => e,⟨_,_,hS⟩⟩
  refine wpAny_bind (next_gen (A := A.in1) (S := S) (sB := sB) hh (C.nl.keeps (onB.kp k0)) hroom (isGen_kp k0 hgB) hgs (go _ pk) (fun h r v s1 gs' e => by cases e) fun s1 _ af h' hk => ?_)
  refine wpAny_pure (hR _ acc c ⟨fun b o e => ?_,?_,?_⟩ (hk _ _ (af.sS _ hS .list)) (by simpa using hacc.keepHit (tkT af.tk fun b o vs n e _ _ => hk b o e)))
  ·obtain ⟨o1,e1,l1⟩ := af.k0.heap b o e
   exact ⟨o1,hk _ _ e1,l1⟩
  ·exact af.k0.os
  ·exact gkeep_set af.k0.gens hgn rfl
 | cons h r ih =>
  intro s done acc c gs k0 hgs go hS hacc hz hR
  refine codeAny_builtin PySem.F.entry_extend_loop ?_
  rw [Around.under_plainId PySem.F.plain_extend_loop _]
  show wpAny _ A.in1 (pyNext (.ref ga) >>= _) _ _ s
  have pk : Pk S sB s (s.setGen g .running) := ⟨fun _ _ _ e => e,rfl,gkeep_set k0.gens hgn rfl,fun _ _ _ _ e _ _ => e,⟨_,_,hS⟩⟩
  refine wpAny_bind (next_gen (A := A.in1) (S := S) (sB := sB) hh (C.nl.keeps (onB.kp k0)) hroom (isGen_kp k0 hgB) hgs (go _ pk) (fun h' r' v s1 gs' e hb rd af nx => ?_) fun s1 e => by cases e)
  cases e
  have hS1 := af.sS _ hS .list
  have hlen := hacc.length
  have hlen' : done.length = acc.size := by simpa using hlen
  simp only [List.length_cons] at hz
  show wpAny _ A.in1 (updateSeq S (·.push v) >>= _) _ _ _
  refine wpAny_bind ?_
  refine wpAny_updateSeq hS1 rfl (wpAny_pure ⟨plainId_quiet PySem.F.plain_extend_loop _,?_⟩) (by simp [sizeLine]; omega) (by simp [sizeLine]; omega)
  have e3 : (s1.heap.update S (Obj.mapSeq (·.push v))).get? S = some (listO (acc.push v) (c + 1)) := by
   have := Heap.get?_update_self (Obj.mapSeq (·.push v)) hS1 rfl
   rw [this]; unfold listO Obj.mapSeq; simp
  have tk3 : TupKeep s1.heap (s1.heap.update S (Obj.mapSeq (·.push v))) := fun b o vs n e cc d => (Heap.get?_update_other _ _ (by rintro rfl; rw [hS1] at e; obtain rfl := Option.some.inj e; simp [listO] at cc)).trans e
  have gs3 : (s1.setGen g gs').gens[g]? = some gs' := setGen_self (gs := .running) ((af.gn.2.1 g (Array.getElem?_eq_some_iff.mp (setGen_self (x := .running) hgs)).1).trans (setGen_self hgs))
  have k3 : Kp C.lo sB { s1.setGen g gs' with heap := s1.heap.update S (Obj.mapSeq (·.push v)) } := ⟨fun b o e => by
   obtain ⟨o1,e1,l1⟩ := af.k0.heap b o e
   exact ⟨o1,(Heap.get?_update_other _ _ (by rintro rfl; rw [hSB] at e; cases e)).trans e1,l1⟩,af.k0.os,gkeep_set af.k0.gens hgn hb⟩
  refine ih _ (done ++ [h]) (acc.push v) (c + 1) gs' k3 gs3 (fun s'' pk2 => nx s'' ?_) e3 ?_ (by simp; omega) fun s' acc' c' kk hS' ha => hR s' acc' c' kk hS' (by simpa using ha)
  ·exact ⟨fun b o hbS e => pk2.keep b o hbS ((Heap.get?_update_other _ _ (Ne.symm hbS)).trans e),pk2.os,pk2.g,tkT tk3 pk2.tup,pk2.sx⟩
  ·rw [Array.toList_push]
   exact (hacc.keepHit (tkT af.tk tk3)).append (.cons (RdT.keep rd tk3) .nil)
end
section
variable {C : Cx} {A : Around} {sB s s' r0 : Shared} {S ga : Addr} {g : Nat} {E : Value → Shared → Prop}
theorem mapSeq_list (f : Array Value → Array Value) (acc : Array Value) (n : Nat) : ∃ n',Obj.mapSeq f (listO acc n) = listO (f acc) n' := by
 unfold listO; simp [Obj.mapSeq]
theorem list_gen {hs : List (List Int × Int)} {gs : GenState} {Q : Value → Shared → Prop} (hh : A.handled = none) (hroom : A.depth < recursionLimit) (onB : C.On sB) (hgB : sB.heap.IsGen ga g) (hgn : sB.gens.size ≤ g) (k0 : Kp C.lo sB s) (hSB : sB.heap.get? s.heap.objs.size = none) (hgs : s.gens[g]? = some gs)
  (go : ∀ s'',Pk s.heap.objs.size sB { s with heap := s.heap.push { cls := .type "list",data := .seq #[] } } s'' → GoS C A.in1.in1.in1 s.heap.objs.size sB gs hs s'') (hz : hs.length ≤ 10 ^ 6)
  (hQ : ∀ s' acc c,Kp C.lo sB s' → s'.heap.get? s.heap.objs.size = some (listO acc c) → All2 (HitV s'.heap) hs acc.toList → Q (.ref s.heap.objs.size) s') : wpAny C.M A (call (.type "list") [.ref ga]) Q E s := by
 have hg0 := isGen_kp k0 hgB
 obtain ⟨og,nm,qn,eg,cg,dg⟩ := id hg0
 have hSg : s.heap.objs.size ≠ ga := fun q => ne_size eg q.symm
 refine callType_codes (Q₁ := fun obj s₁ => obj = .ref s.heap.objs.size ∧ s₁ = { s with heap := s.heap.push { cls := .type "list",data := .seq #[] } }) PySem.F.called_list (PySem.F.typeCall_list_1 _) PySem.F.entry_list_init
  (code_list_new _ ⟨rfl,rfl⟩) fun obj s₁ h₁ => ?_
 obtain ⟨rfl,rfl⟩ := h₁
 have hS : (s.heap.push { cls := .type "list",data := .seq #[] }).get? s.heap.objs.size = some { cls := .type "list",data := .seq #[] } := Heap.get?_push_size _ rfl
 refine ⟨⟨_,hS,rfl⟩,PySem.F.args_list_init_2 _ _,?_⟩
 generalize hSS : s.heap.objs.size = S at *
 show wpAny _ A.in1.in1 (do let old ← Builtin.List.listItems (.ref S); Builtin.List.listUpdate (.ref S) (fun _ => #[]); letGo old.toList.reverse; Builtin.List.listExtendWith (.ref S) (.ref ga) .none) _ _ _
 refine wpAny_bind ?_
 unfold Builtin.List.listItems
 refine wpAny_bind (wpAny_seqItems hS rfl (wpAny_pure ?_))
 show wpAny _ A.in1.in1 (updateSeq S (fun _ => #[]) >>= fun _ => letGo (#[] : Array Value).toList.reverse >>= fun _ => Builtin.List.listExtendWith (.ref S) (.ref ga) .none) _ _ _
 refine wpAny_bind (wpAny_updateSeq hS rfl ?_)
 have hS₂ := Heap.get?_update_self (Obj.mapSeq (fun _ => (#[] : Array Value))) hS rfl
 refine wpAny_bind (wpAny_letGo ?_)
 have oth2 : ∀ b o,b ≠ S → (s.heap.push { cls := .type "list",data := .seq #[] }).get? b = some o → ((s.heap.push { cls := .type "list",data := .seq #[] }).update S (Obj.mapSeq (fun _ => (#[] : Array Value)))).get? b = some o := fun b o hb e => (Heap.get?_update_other _ _ (Ne.symm hb)).trans e
 generalize hH2 : (s.heap.push { cls := .type "list",data := .seq #[] }).update S (Obj.mapSeq (fun _ => (#[] : Array Value))) = H2 at *
 have eg2 : H2.get? ga = some og := oth2 _ _ (Ne.symm hSg) (Heap.get?_push_of_some _ eg)
 have hT : (⟨H2,s.gens,s.drawn,s.toks,s.os⟩ : Shared).TypeIs (.ref ga) "generator" := ⟨og,eg2,cg⟩
 unfold Builtin.List.listExtendWith
 refine wpAny_bind (wpAny_typeOf hT ?_)
 have h1 : Builtin.List.listSameRef (.ref S) (.ref ga) = false := by simp [Builtin.List.listSameRef,hSg]
 have h2 : (Value.type "generator" == Value.type "list") = false := by decide
 have h3 : (Value.type "generator" == Value.type "tuple") = false := by decide
 simp only [h1,h2,h3,Bool.or_false,Bool.false_eq_true,if_false]
 refine wpAny_bind (wpAny_pyIter_gen ⟨og,nm,qn,eg2,cg,dg⟩ ?_)
 refine wpAny_bind (wpAny_holding ?_)
 unfold Builtin.List.listLengthHint
 refine wpAny_bind (wpAny_specialOf hT PySem.F.gen_no_len ?_)
 show wpAny _ A.in1.in1 (specialOf (Value.ref ga) (Str.ofString "__length_hint__") >>= _) _ _ _
 refine wpAny_bind (wpAny_specialOf hT PySem.F.gen_no_hint ?_)
 refine wpAny_pure ?_
 show wpAny _ A.in1.in1 (rule "list.extend.makes-room" >>= fun _ => Builtin.List.listTouch (.ref S) >>= fun _ =>
  again (.builtin "list.extend.loop" ⟨[.ref S,.ref ga,.none],[]⟩)) _ _ _
 refine wpAny_bind (wpAny_rule ?_)
 refine wpAny_bind ?_
 show wpAny _ A.in1.in1 (updateSeq S (·.push .none) >>= fun _ => updateSeq S (·.pop)) _ _ _
 refine wpAny_bind (wpAny_updateSeq hS₂ rfl ?_)
 have hS₃ := Heap.get?_update_self (Obj.mapSeq (·.push Value.none)) hS₂ rfl
 refine wpAny_updateSeq (hz := by seq_fits) hS₃ rfl ?_
 have hS₄ := Heap.get?_update_self (Obj.mapSeq (·.pop)) hS₃ rfl
 have oth4 : ∀ b o,b ≠ S → H2.get? b = some o → ((H2.update S (Obj.mapSeq (·.push Value.none))).update S (Obj.mapSeq (·.pop))).get? b = some o :=
  fun b o hb e => (Heap.get?_update_other _ _ (Ne.symm hb)).trans ((Heap.get?_update_other _ _ (Ne.symm hb)).trans e)
 refine wpAny_pure ⟨plainId_quiet PySem.F.plain_extend_loop _,?_⟩
 have okeep : ∀ b o,b ≠ S → (s.heap.push { cls := .type "list",data := .seq #[] }).get? b = some o → ((H2.update S (Obj.mapSeq (·.push Value.none))).update S (Obj.mapSeq (·.pop))).get? b = some o := fun b o hb e => oth4 b o hb (oth2 b o hb e)
 have hSo : ∃ c,((H2.update S (Obj.mapSeq (·.push Value.none))).update S (Obj.mapSeq (·.pop))).get? S = some (listO #[] c) := by
  obtain ⟨n1,e1⟩ := mapSeq_list (fun _ => (#[] : Array Value)) #[] 0
  obtain ⟨n2,e2⟩ := mapSeq_list (fun x => x.push Value.none) #[] n1
  obtain ⟨n3,e3⟩ := mapSeq_list (fun x => x.pop) #[Value.none] n2
  refine ⟨n3,hS₄.trans ?_⟩
  have e1 : Obj.mapSeq (fun _ => (#[] : Array Value)) { cls := .type "list",data := .seq #[] } = listO #[] n1 := e1
  rw [e1,e2]
  have e3' : Obj.mapSeq (fun x => x.pop) (listO #[Value.none] n2) = listO #[] n3 := e3
  exact congrArg some e3'
 obtain ⟨c4,hS4⟩ := hSo
 have tk4 : TupKeep (s.heap.push { cls := .type "list",data := .seq #[] }) ((H2.update S (Obj.mapSeq (·.push Value.none))).update S (Obj.mapSeq (·.pop))) := fun b o vs n e cc d => okeep b o (by rintro rfl; rw [hS] at e; obtain rfl := Option.some.inj e; simp at cc) e
 have k4 : Kp C.lo sB ⟨(H2.update S (Obj.mapSeq (·.push Value.none))).update S (Obj.mapSeq (·.pop)),s.gens,s.drawn,s.toks,s.os⟩ := ⟨fun b o e => by
  obtain ⟨o1,e1,l1⟩ := k0.heap b o e
  exact ⟨o1,okeep b o1 (by rintro rfl; rw [hSB] at e; cases e) (Heap.get?_push_of_some _ e1),l1⟩,k0.os,k0.gens⟩
 refine extend_loop (A := A.in1) hh hroom onB hgB hgn hSB .none hs _ [] #[] c4 gs k4 hgs (fun s'' pk => go s'' ⟨fun b o hb e => pk.keep b o hb (okeep b o hb e),pk.os,pk.g,tkT tk4 pk.tup,pk.sx⟩) hS4 .nil (by simpa using hz) fun s' acc' c' kk hS' ha => ?_
 exact ⟨rfl,hQ s' acc' c' kk hS' (by simpa using ha)⟩
end
end
section
section
variable {g : Gn} {A A' : Around} {T : TS} {E E' : StE} {s s' r0 : Shared} {ds ds' : List (Addr × Obj)}
theorem gen_run (B : GB g A T) (hO : OutsOk T.T) {tw : Addr} {text : List Int} {vals : List Value} (hvals : vals.length = text.length) (hv : ∀ (i : Nat) c,text[i]? = some c → ∃ t,vals[i]? = some (.int c t)) (htw : IsTup g.sB.heap tw vals.toArray)
  (hT : E "" = some (.tr T true)) (hF1 : E "self" = some (.val .kt)) (hF2 : E "text" = some (.val (.raw (.ref tw)))) (G : GS g (A.over (.func (mBd 2 5) g.env) []) E [] r0 s) :
  SX g.C.M A (.func (mBd 2 5) g.env) (denote table (.func (mBd 2 5) g.env)) [] s (YP g.C A g.S g.sB (srchT T.T 0 0 text) r0) := by
 have O : Ov A (A.over (.func (mBd 2 5) g.env) []) g.env := ov_func
 obtain ⟨az,haz,_⟩ := B.L.z
 have h0 : 0 < T.T.length := by rw [← B.L.th.len]; exact (List.getElem?_eq_some_iff.mp haz).1
 obtain ⟨z,hz0⟩ : ∃ n0,T.T[0]? = some n0 := ⟨_,List.getElem?_eq_getElem h0⟩
 show SX _ _ _ (point >>= fun _ => ((execs (mBd 2 5) g.env).onRaise (leaving g.env)) >>= fun f => match f with | .ret v => ret v | _ => ret .none) _ _ _
 refine sx_bind0 (sx_wp (wpAny_point ?_))
 refine sx_bind0 (sx_onRaise ?_)
 have fin0 : ∀ s3 r1,Af g.C g.S g.sB r1 s3 → SX g.C.M A (.func (mBd 2 5) g.env) (ret .none) [] s3 (YP g.C A g.S g.sB [] r1) := fun s3 r1 h => PySem.W.X.s_end g.C.prog g.C.w A _ _ s3 (.ok (.ret .none)) _ rfl ⟨rfl,h⟩
 refine sx_stmt (G.assign B O (x := "zero_state") rfl rfl (r_head (B.kn.at (at_zero _)) hT (n_val hF1) rfl) fun s1 G1 => ?_)
 refine sx_stmt (wpAny_Assign_Name (Attribute_any_ (G1.ev B O (r_slot (v := .tab 0) (B.kn.sl (slot_tr _)) hT (n_val (v := .nd 0) rfl) hz0 rfl) fun v s2 G2 r _ => ?_)))
 refine byG fun G9 k9 => ?_
 obtain ⟨a0,kvs,rfl,ha0,hd,al,hsys⟩ := (G2.I.er "" (.tr T true) hT).tree.tab hz0 r
 obtain ⟨o0,es0,ep0,e0,xd0,d0,_⟩ := id hd
 refine k9 ?_
 clear k9 G9
 refine getAttr_get e0 xd0.1 xd0.2.1 ⟨es0,ep0,d0⟩ ?_
 have ha0 : g.ad[0]? = some a0 := ha0
 have k3 : Kp g.C.lo s2 { s2 with heap := s2.heap.push (getMeth a0.tab),toks := s2.toks + 1 } := Kp.of_keep fun b o e => Heap.get?_push_of_some _ e
 have G3 := (G2.kp k3).keeping (ds' := [(s2.heap.objs.size,getMeth a0.tab)]) fun p hp => by
  rw [List.mem_singleton] at hp; subst hp
  exact ⟨Heap.get?_push_size _ rfl,nofun,nofun,by simp [getMeth]⟩
 generalize s2.heap.objs.size = pm at G3
 refine G3.I.store (B.fok O _) (x := "zero_transitions_get") (v := .raw (.ref pm)) rfl rfl rfl fun s4 S4 st4 fk4 => ?_
 have G4 := G3.step S4 fk4.ko st4.tup
 refine sx_stmt (G4.assign B O (x := "current_state") rfl rfl (n_val (x := "zero_state") (v := .nd 0) rfl) fun s5 G5 => ?_)
 refine sx_execs_cons (sx_for (fun _ => rfl) ?_)
 refine call_bn (x := "enumerate") (fv := .type "enumerate") (B.fok O _) G5.I rfl rfl rfl (by decide) keep_type rfl (args_one rfl (G5.ev B O (n_val (v := .raw (.ref tw)) hF2) fun v s6 G6 r _ => ?_))
 have r : v = .ref tw := r
 subst r
 refine ⟨G6.I.on,?_⟩
 refine byG fun G9 k9 => ?_
 obtain ⟨otw,etw,ctw,ntw,dtw⟩ := id htw
 refine k9 ?_
 clear k9 G9
 have htup : s6.heap.IsTuple tw vals.toArray := ⟨otw,G6.a.k0.get etw (ne_tf ctw),ctw,ntw,dtw⟩
 refine call_enum_tuple htup fun h7 he7 hit7 hsz7 hk7 => ?_
 refine wpAny_pyIter_enum he7 ?_
 intro kf g' l' pp hkf hg'
 subst hg'
 have n1 : s6.heap.get? s6.heap.objs.size = none := get_none_size _
 have n2 : s6.heap.get? (s6.heap.objs.size + 1) = none := Heap.get?_none_of_le (Nat.le_succ _)
 have hpm := (G6.K _ List.mem_cons_self).1
 have G7 := G6.kp (Kp.of_keep (tk := s6.toks) hk7 : Kp g.C.lo s6 { s6 with heap := h7 })
 refine outer_loop B hO ha0 hz0 hvals hv htw (noneKp G6.a.k0 n2) (noneKp G6.a.k0 n1) (Nat.succ_ne_self _) (fun q => by rw [← q,hpm] at n2; cases n2) (fun q => by rw [← q,hpm] at n1; cases n1) (fun s3 r1 F3 G3 => ?_) text 0 0 _ _ (setE (setE (setE E "zero_state" (.val (.nd 0))) "zero_transitions_get" (.val (.raw (.ref pm)))) "current_state" (.val (.nd 0))) rfl (Nat.zero_le _) hT rfl rfl rfl (GS.as (A := A) G7 O ov_for) ⟨_,he7⟩ hit7
 rw [hkf]
 exact sx_execs_nil (fin0 _ _ G3.a)
end
end
section
noncomputable def genE (T : TS) (tw : Addr) : StE := setE (setE (setE (fun _ => none) "text" (.val (.raw (.ref tw)))) "self" (.val .kt)) "" (.tr T true)
theorem GB.start {g : Gn} {A A' : Around} {T : TS} {s : Shared} {m : Str → Option Value} {tw : Addr} (B : GB g A T) (O : Ov A A' g.env) (k : Kp g.C.lo g.sB s) (FO : FrameObj g.env.locals s.heap) (ns : s.heap.Ns g.env.locals m) (h1 : m "self" = some (.ref g.kt)) (h2 : m "text" = some (.ref tw)) (Sx : ∃ acc c,s.heap.get? g.S = some (listO acc c)) : GS g A' (genE T tw) [] s s := by
 have on := B.on.kp k
 refine byG fun G9 k9 => ?_
 obtain ⟨oL,esL,epL,eL,dL,rL⟩ := id ns
 have dL' : ∀ vs,oL.data ≠ .fields vs := fun vs => by rw [dL]; nofun
 obtain ⟨acc,ca,eS⟩ := id Sx
 refine k9 ?_
 clear k9 G9
 have np : ∀ b,PlT g.kt g.dx g.ad b → ∃ o,g.sB.heap.get? b = some o ∧ TOb o := fun b p => B.L.ob p
 refine ⟨⟨on,⟨?_,?_,?_⟩,⟨(k.md (Z := fun _ => False)).heap,(k.md (Z := fun _ => False)).nf,(k.md (Z := fun _ => False)).fr,(k.md (Z := fun _ => False)).os,GKeep.refl _⟩,?_,?_,.inl rfl,fun b q => .inr q,⟨m,ns⟩,(fun _ _ h => absurd h List.not_mem_nil),fun x e he => ?_,fun x y e e' h _ l => ?_,(fun q => no_tf q)⟩,(fun _ h => absurd h List.not_mem_nil),⟨k,fun _ e _ => e,fun _ _ _ _ e _ _ => e,GKeep.refl _⟩,Sx,k.gens⟩
 ·show A'.depth + g.R < _
  have := B.ro.depth; rw [O.dp]; omega
 ·show A'.units + 10 * g.R + 200 < _
  have := B.ro.units; rw [O.un]; omega
 ·obtain ⟨l,hl,hfr⟩ := (B.ro.kp k).fr
  refine ⟨g.env :: l,by show A'.frames = _; rw [O.fr,hl]; rfl,⟨by rw [B.ok.kind]; nofun,⟨g.env.locals,oL,B.fm,Heap.get?_none_of_le B.lo,eL,(fun _ q => Data.noConfusion (dL.symm.trans q))⟩,hfr.1⟩,fun e' he L hL => ?_⟩
  rcases List.mem_cons.mp he with rfl | he
  ·rw [B.fm] at hL; obtain rfl := Option.some.inj hL; exact ⟨B.lo,FO⟩
  ·exact hfr.2 e' he L hL
 ·rintro b (rfl | rfl)
  ·exact ⟨oL,eL,dL'⟩
  ·exact ⟨_,eS,(fun _ q => Data.noConfusion q)⟩
 ·rintro b (rfl | rfl)
  ·exact .inr B.nL
  ·exact .inr B.hS
 ·unfold genE setE at he
  split at he
  ·rename_i hx
   obtain rfl := Option.some.inj he
   refine .tr hx ⟨B.L.keep (fun b o p e => ?_) fun b o vs n e c _ => k.get e (ne_tf c),fun j a e => ?_,fun p => ?_,fun q => no_tf q,(fun q => Kd.noConfusion q),fun q => Kd.noConfusion q⟩
   ·obtain ⟨o',e',q⟩ := B.L.ob p
    rw [e] at e'; cases e'
    exact k.get e q.s.nf
   ·obtain ⟨o',e',q⟩ := B.L.ob (.inl (mem_adAll e).2.2)
    rw [← B.ob j a e,e']; exact k.get e' q.s.nf
   ·obtain ⟨o',e',_⟩ := np _ p
    have e' : g.sB.heap.get? g.env.locals = some o' := e'
    rw [B.nL] at e'; cases e'
  ·split at he
   ·rename_i hx; subst hx; obtain rfl := Option.some.inj he
    exact .slot _ (.loc m (B.st _ rfl) rfl ns h1) rfl
   ·split at he
    ·rename_i hx; subst hx; obtain rfl := Option.some.inj he
     exact .slot _ (.loc m (B.st _ rfl) rfl ns h2) rfl
    ·cases he
 ·unfold genE setE at h
  split at h
  ·cases h; exact l.elim
  ·split at h
   ·cases h; exact l.elim
   ·split at h
    ·cases h; exact l.elim
    ·cases h
end
section
theorem genFn_is (P : Params) : ∃ oc od fd osl,(KK P).lookup 94 = some ⟨oc,od,.func fd,osl⟩ ∧ fd.body = .stmts (mBd 2 5) ∧ fd.scope.names = mNm 2 5 ∧ fd.scope.isCoroutine = false ∧ fd.scope.isGenerator = true ∧ fd.closure = [] ∧ codeIn (KK P) fd.code fd.qualname = true ∧ fd.scope.kind = .function ∧ fd.globals = mainGlobals ∧ fd.builtins = builtinsNs ∧ (∀ x y S,peek (KK P) S (bindArgs fd ⟨[x,y],[]⟩) = some [(("self" : Str),x),(("text" : Str),y)]) :=
 ⟨_,_,_,_,rfl,rfl,rfl,rfl,rfl,rfl,rfl,rfl,rfl,rfl,fun _ _ _ => rfl⟩
theorem gen_names : ((mNm 2 5).all fun p => match p.2 with | .local | .globalImplicit => true | _ => false) = true := rfl
noncomputable def Listed (C : Cx) (R : Nat) (s : Shared) (hits : List (List Int × Int)) (v : Value) (s₁ : Shared) : Prop :=
 ∀ (A0 : Around),A0.handled = none → Rm C (R + 3) A0 s → ∀ (Q X : Value → Shared → Prop),
  (∀ s' S acc c,Kp C.lo s s' → s.heap.get? S = none → s'.heap.get? S = some (listO acc c) → All2 (HitV s'.heap) hits acc.toList → Q (.ref S) s') → wpAny C.M A0 (call (.type "list") [v]) Q X s₁
theorem gen_call {C : Cx} (hC : Kn C) {R : Nat} {A : Around} {s : Shared} {kt dx : Addr} {T : TS} {ad : List Ad} (on : C.On s) (hlo : C.lo ≤ s.heap.objs.size) (M : Rm C (R + 1) A s) (L : Live C s.heap kt dx T ad true) (ob : ∀ (j : Nat) a,ad[j]? = some a → s.heap.get? a.tab = T.ob[j]?) (hO : OutsOk T.T) {tw : Addr} {text : List Int} {vals : List Value} (hvals : vals.length = text.length) (hv : ∀ (i : Nat) c,text[i]? = some c → ∃ t,vals[i]? = some (.int c t)) (htw : IsTup s.heap tw vals.toArray)
  (hz : (srchT T.T 0 0 text).length ≤ 10 ^ 6) {Q X : Value → Shared → Prop} (q : ∀ v s₁,Kp C.lo s s₁ → Listed C R s (srchT T.T 0 0 text) v s₁ → Q v s₁) : wpAny C.M A (call (.ref 94) [.ref kt,.ref tw]) Q X s := by
 have hKs := C.kin.keeps on
 refine byG fun G9 k9 => ?_
 obtain ⟨oc,od,fd,osl,hlk,hbd,hnm,hco,hgen,hclo,hcd,hk,hgl,hbl,hbind⟩ := genFn_is C.w.params
 refine k9 ?_
 clear k9 G9
 have hall : ∀ x kk,fd.scope.names.lookup x = some kk → kk = .local ∨ kk = .globalImplicit := fun x kk e => by
  have := List.all_eq_true.mp gen_names _ (hnm ▸ mem_of_lookup e)
  cases kk <;> first | exact .inl rfl | exact .inr rfl | cases this
 have n1 : fd.scope.names.lookup ("self" : Str) = some .local := by rw [hnm]; rfl
 have n2 : fd.scope.names.lookup ("text" : Str) = some .local := by rw [hnm]; rfl
 have hbt : BindsTo s fd ⟨[.ref kt,.ref tw],[]⟩ [(("self" : Str),.ref kt),(("text" : Str),.ref tw)] := hC.bd on (hbind _ _)
 have hkind : ∀ x ∈ [(("self" : Str),Value.ref kt),(("text" : Str),Value.ref tw)],fd.scope.names.lookup x.1 = some .local ∨ (fd.scope.names.lookup x.1 = some .cell ∧ ((cellsFrom (s.heap.objs.size + 1) fd.scope.names []).lookup x.1).isSome = true) := by
  intro x hx
  simp only [List.mem_cons,List.not_mem_nil,or_false] at hx
  rcases hx with rfl | rfl
  ·exact .inl n1
  ·exact .inl n2
 refine wpAny_call (codeAny_call_generator (fd := fd) (body := mBd 2 5) (by have := M.depth; omega) (hKs _ _ (hC.K ▸ hlk)) rfl hco hgen hbd (codeRec_of hKs (hC.K ▸ hcd)) (hbt _ _ _ _ ?_))
 rw [hclo]
 refine wpAny_mono (wpAny_and (wpAny_newFunctionEnv_cells (Q := fun env s' => env = newEnv fd.scope s.heap.objs.size fd.globals (cellsFrom (s.heap.objs.size + 1) fd.scope.names []) (fd.qualname ++ ".<locals>.") (some 94) fd.code none fd.builtins ∧
   InCallC s env.locals (bindL env.kindOf [(("self" : Str),.ref kt),(("text" : Str),.ref tw)] fun _ => none) env.cells (bindC env.kindOf [(("self" : Str),.ref kt),(("text" : Str),.ref tw)] fun _ => none) s') hk hkind fun env he s' x => ⟨he,x⟩) (newEnv_cls hk hkind)) (fun env s2 z => ?_) fun _ _ e => e
 refine byG fun G9 k9 => ?_
 obtain ⟨⟨he,IX⟩,FO⟩ := z
 obtain ⟨h2,tk2,rfl,hk2⟩ := IX.done
 refine k9 ?_
 clear k9 G9
 have on2 : C.On { s with heap := h2,toks := tk2 } := fun b o e => hk2 b o (on b o e)
 refine ⟨C.nl.keeps on2,?_⟩
 have eL : env.locals = s.heap.objs.size := by rw [he]; rfl
 have eS : env.scope = fd.scope := by rw [he]; rfl
 have eF : env.frame = some env.locals := by rw [he]; rfl
 have eC : env.cells = [] := by
  have : env.cells = cellsFrom (s.heap.objs.size + 1) fd.scope.names [] := by rw [he]; rfl
  rw [this,List.eq_nil_iff_forall_not_mem]
  rintro ⟨x,c⟩ h
  have := hnm ▸ cellsFrom_mem h
  have := List.all_eq_true.mp gen_names _ this
  cases this
 have eK : ∀ x,env.kindOf x = fd.scope.names.lookup x := fun x => by unfold Env.kindOf; rw [eS]
 have nL : s.heap.get? env.locals = none := by rw [eL]; exact get_none_size _
 have ok : EnvOk env := ⟨by rw [eS]; exact hk,by rw [he]; exact hgl,by rw [he]; exact hbl⟩
 let gob : Obj := { cls := .type "generator",data := .fields #[.int s.gens.size 0,.str fd.name tk2,.str fd.qualname (tk2 + 1)] }
 have kk1 : Kp C.lo s { s with heap := h2.push gob,toks := tk2 + 1 + 1,gens := s.gens.push (.fresh (.func (mBd 2 5) env)) } := by
  refine ⟨fun b o e => ⟨o,Heap.get?_push_of_some _ (hk2 b o e),.inl rfl⟩,rfl,?_⟩
  refine ⟨by simp,fun k hk => by rw [Array.getElem?_push_lt hk,Array.getElem?_eq_getElem hk],fun hb y hy => ?_⟩
  rcases Array.mem_push.mp hy with hy | rfl
  ·exact hb y hy
  ·rfl
 have hlt : env.locals < h2.objs.size := by obtain ⟨o,_,_,e,_⟩ := FO; exact Heap.lt_size e
 have hgl2 : (h2.push gob).get? h2.objs.size = some gob := Heap.get?_push_size _ rfl
 refine q _ _ kk1 ?_
 intro A0 hh0 Ro0 Q0 X0 q0
 let sB : Shared := { s with heap := hideAll (h2.push gob) [env.locals],toks := tk2 + 1 + 1 }
 have up : ∀ b o,s.heap.get? b = some o → sB.heap.get? b = some o := fun b o e => hideAll_get _ (Heap.get?_push_of_some _ (hk2 b o e)) (by
  rw [List.mem_singleton]
  rintro rfl; rw [nL] at e; cases e)
 have down : ∀ b o,sB.heap.get? b = some o → (h2.push gob).get? b = some o := fun b o e => of_hideAll _ e
 have upK : Kp C.lo s sB := ⟨fun b o e => ⟨o,up b o e,.inl rfl⟩,rfl,GKeep.refl _⟩
 have hsz : (h2.push gob).objs.size = h2.objs.size + 1 := Heap.size_push ..
 have nS : (h2.push gob).get? (h2.push gob).objs.size = none := get_none_size _
 have hSB : sB.heap.get? (h2.push gob).objs.size = none := by
  cases e : sB.heap.get? (h2.push gob).objs.size with
  | none => rfl
  | some o => have := down _ _ e; rw [nS] at this; cases this
 have SL : (h2.push gob).objs.size ≠ env.locals := by rw [hsz]; exact Nat.ne_of_gt (Nat.lt_succ_of_lt hlt)
 have gens0 : GKeep s.gens (s.gens.push (.fresh (.func (mBd 2 5) env))) := kk1.gens
 let g : Gn := ⟨C,R,env,sB,(h2.push gob).objs.size,kt,dx,ad⟩
 have B : GB g A0.in1.in1.in1 T := by
  refine ⟨on.kp upK,L.keep (fun b o p e => up b o e) (fun b o vs n e _ _ => up b o e),fun j a e => ?_,⟨?_,?_,(Ro0.kp upK).fr⟩,hh0,ok,eF,by show C.lo ≤ env.locals; rw [eL]; exact hlo,hideAll_none _ (List.mem_singleton.mpr rfl),hSB,SL,fun x h => ?_,fun x h => (eK x).trans (hnm ▸ h),fun x h => ?_,eC,hC,by show env.scope.isCoroutine = false; rw [eS]; exact hco⟩
  ·obtain ⟨o,e',_⟩ := L.ob (.inl (mem_adAll e).2.2)
   rw [← ob j a e,e']; exact up _ _ e'
  ·have := Ro0.depth; show A0.depth + (R + 1) < _; omega
  ·have := Ro0.units; show A0.units + 1 + 1 + 1 + 10 * (R + 1) + 200 < _; omega
  ·unfold isLC at h
   show env.kindOf x = _
   rw [eK]
   rw [← hnm] at h
   split at h
   ·rename_i e; exact e
   ·rename_i e; rcases hall x _ e with q | q <;> cases q
   ·cases h
  ·rw [← hnm] at h
   rcases h with h | h <;> rcases hall x _ h with q | q <;> cases q
 have zn : ((([(("self" : Str),Value.ref kt),(("text" : Str),Value.ref tw)]).map (·.1))).Nodup := by show ([("self" : Str),("text" : Str)]).Nodup; decide
 refine list_gen (A := A0) (sB := sB) (ga := h2.objs.size) (g := s.gens.size) (gs := .fresh (.func (mBd 2 5) env)) (hs := srchT T.T 0 0 text) hh0 (by have := Ro0.depth; omega) B.on ⟨gob,_,_,hideAll_get _ hgl2 (by rw [List.mem_singleton]; exact Nat.ne_of_gt hlt),rfl,rfl,rfl⟩ (Nat.le_refl _)
  ⟨fun b o e => ⟨o,down b o e,.inl rfl⟩,rfl,gens0⟩ hSB (by simp) (fun s'' pk => ?_) hz fun s' acc c k hS ha => q0 s' _ acc c (upK.trans k) ?_ hS ha
 ·have keep : ∀ b o,b ≠ (h2.push gob).objs.size → (h2.push gob).get? b = some o → s''.heap.get? b = some o := fun b o hb e => pk.keep b o hb (Heap.get?_push_of_some _ e)
  have kB : Kp C.lo sB s'' := ⟨fun b o e => ⟨o,keep b o (by rintro rfl; rw [hSB] at e; cases e) (down b o e),.inl rfl⟩,pk.os,pk.g⟩
  refine byG fun G9 k9 => ?_
  obtain ⟨o,es,ep,e,r⟩ := IX.toInCall.ns
  obtain ⟨oF,esF,epF,eF',rF⟩ := FO
  obtain ⟨ot,eot,rt⟩ := htw
  refine k9 ?_
  clear k9 G9
  exact gen_run (g := g) B hO hvals hv ⟨ot,up _ _ eot,rt⟩ rfl rfl rfl (B.start (s := s'') ov_func kB ⟨oF,esF,epF,keep _ _ (Ne.symm SL) (Heap.get?_push_of_some _ eF'),rF⟩ ⟨o,es,ep,keep _ _ (Ne.symm SL) (Heap.get?_push_of_some _ e),r⟩ (bindL_get zn List.mem_cons_self ((eK _).trans n1)) (bindL_get zn (List.mem_cons_of_mem _ List.mem_cons_self) ((eK _).trans n2)) pk.sx)
 ·exact noneKp upK hSB
end
section
theorem fn_srch {C : Cx} (h : Kn C) : ∃ fd,FnIs C 87 fd ["self","text"] (mBd 2 4) (mNm 2 4) ∧ ∀ a b,bindArgs fd ⟨[a,b],[]⟩ = pure [(("self" : Str),a),(("text" : Str),b)] := ⟨_,h.fn rfl rfl rfl rfl rfl rfl rfl rfl rfl rfl rfl rfl rfl,fun _ _ => rfl⟩
theorem meth_gen (P : Params) : MethIs (KK P) "_search_all_generic" 94 := ⟨rfl,rfl,rfl,rfl,by decide⟩
theorem Listed.kp {C : Cx} {R : Nat} {s s' s1 : Shared} {hits : List (List Int × Int)} {v : Value} (k : Kp C.lo s s') (h : Listed C R s' hits v s1) : Listed C R s hits v s1 := fun A0 hh M Q X q => h A0 hh (M.kp k) Q X fun s2 S acc c k2 hn => q s2 S acc c (k.trans k2) (noneKp k hn)
theorem search_ok {C : Cx} (hC : Kn C) {R : Nat} {A : Around} {s : Shared} {kt dx : Addr} {T : TS} {ad : List Ad} (on : C.On s) (hlo : C.lo ≤ s.heap.objs.size) (M : Rm C (R + 2) A s) (L : Live C s.heap kt dx T ad true) (ob : ∀ (j : Nat) a,ad[j]? = some a → s.heap.get? a.tab = T.ob[j]?) (hO : OutsOk T.T) {tw : Addr} {text : List Int} {vals : List Value} (hvals : vals.length = text.length) (hv : ∀ (i : Nat) c,text[i]? = some c → ∃ t,vals[i]? = some (.int c t)) (htw : IsTup s.heap tw vals.toArray)
  (hz : (srchT T.T 0 0 text).length ≤ 10 ^ 6) {Q X : Value → Shared → Prop} (q : ∀ v s₁,Kp C.lo s s₁ → Listed C R s (srchT T.T 0 0 text) v s₁ → Q v s₁) : wpAny C.M A (call (.ref 87) [.ref kt,.ref tw]) Q X s := by
 obtain ⟨fd,hF,hb⟩ := fn_srch hC
 have rs : All2 (VR C s.heap ⟨fun _ => False,kt,dx,ad,fun _ => 0⟩) [.kt,.raw (.ref tw)] [.ref kt,.ref tw] := .cons rfl (.cons rfl .nil)
 have hE : ∀ x e,setE (initE ["self","text"] [.kt,.raw (.ref tw)]) "" (.tr T true) x = some e → (x = ("" : Str) ∧ e = .tr T true) ∨ ∃ v w,e = .val v ∧ (x,w) ∈ (["self","text"] : List Str).zip [.ref kt,.ref tw] ∧ VR C s.heap ⟨fun _ => False,kt,dx,ad,fun _ => 0⟩ v w := fun x e h => by
  unfold setE at h
  by_cases hx : x = ("" : Str)
  ·rw [if_pos hx] at h; obtain rfl := Option.some.inj h; exact .inl ⟨hx,rfl⟩
  ·rw [if_neg hx] at h; exact .inr (initE_get rs x e h)
 refine wpAny_call (code_E (un := false) (kd := .gen) (R := R + 1) (ws := [.ref kt,.ref tw]) (z := ⟨fun _ => False,kt,dx,ad,fun _ => 0⟩) (Z := fun _ => False) (E0 := setE (initE ["self","text"] [.kt,.raw (.ref tw)]) "" (.tr T true)) hF hC.gb (fun h => Bool.noConfusion h) M on hlo (fun _ h => h.elim) (fun _ _ h => h.elim) ⟨fun x v hx => ?_,fun x T' f' hx => ?_,fun x e hx l => ?_⟩ rfl (BindsTo.of_eq (hb _ _)) fun f z1 s1 X ok S h1 h2 _ _ k1 hL lv1 => ?_)
 ·rcases hE x _ hx with ⟨_,e⟩ | ⟨v',w,e,h1,h2⟩
  ·cases e
  ·cases e; exact ⟨w,h1,okn rfl h1,h2⟩
 ·rcases hE x _ hx with ⟨h1,e⟩ | ⟨v',w,e,_⟩
  ·cases e; exact ⟨h1,L,ob,(fun q => Kd.noConfusion q),(fun h => no_tf h),fun q => Kd.noConfusion q⟩
  ·cases e
 ·rcases hE x _ hx with ⟨_,e⟩ | ⟨v',w,e,_⟩ <;> subst e <;> exact l
 refine wpAny_execs_cons (wpAny_If ((Xt.not (b := true) (.plain (d_of (r_head (T := T) (fin := true) (hC.at (at_finalized _)) rfl (n_val (v := .kt) rfl) rfl)) rfl)) f z1 s1 ok S _ _ fun s2 k2 => wpAny_execs_nil ?_))
 have S2 := S.kp k2
 refine wpAny_execs_cons (wpAny_If ((Xt.plain (b := false) (d_of (r_head (T := T) (fin := true) (hC.at (at_case _)) rfl (n_val (v := .kt) rfl) rfl)) rfl) f z1 s2 ok S2 _ _ fun s3 k3 => wpAny_execs_nil ?_))
 have S3 := S2.kp k3
 refine wpAny_execs_cons (wpAny_Return_some (call_attr rfl rfl rfl ((n_val (x := "self") (v := .kt) rfl) f z1 s3 ok S3 _ _ fun w s4 k4 r pl => ?_)))
 have r : w = .ref z1.kt := r
 subst r
 have S4 := S3.kp k4
 refine live_method S4.on (S4.er "" (.tr T true) rfl).tree.L (hC.me (meth_gen _)) ?_
 refine callWith_args S4.on (keep_in (hC.me (meth_gen _)).hk) rfl (args_one rfl ((n_val (x := "text") (v := .raw (.ref tw)) rfl) f z1 s4 ok S4 _ _ fun w s5 k5 r => ?_))
 have r : w = .ref tw := r
 subst r
 have S5 := S4.kp k5
 have t := (S5.er "" (.tr T true) rfl).tree
 have k15 : Kp C.lo s s5 := k1.trans (k2.trans (k3.trans (k4.trans k5)))
 refine byG fun G9 k9 => ?_
 obtain ⟨ot,eot,ct,rt⟩ := htw
 refine k9 ?_
 clear k9 G9
 exact ⟨S5.on,gen_call hC S5.on (S5.size ok) S5.rm t.L t.ob hO hvals hv ⟨ot,k15.get eot (ne_tf ct),ct,rt⟩ hz fun v s6 k6 hl => q v s6 (k15.trans k6) (hl.kp k15)⟩
theorem hits_rds {h : Heap} {lv : Addr → Prop} {ks : List (List Int × Int)} {vs : List Value} (x : All2 (HitV h) ks vs) : Rds h lv vs (ks.map hitD) := by
 induction x with
 | nil => exact .nil
 | cons r _ ih => exact .cons (Rd.less r fun _ _ => trivial) ih
theorem r_srch {P : Pr} {E : StE} (hC : Kn P.C) (hR : 3 ≤ P.R) (hu : P.un = true) {T : TS} {e y : Expr} {text : List Int} {p ap cp cp2 : Pos} (hg : isGl P.names "list" = true) (hT : E "" = some (.tr T true)) (he : Ex P E e .kt) (hy : Ex P E y (.dat (wordD text))) (hO : OutsOk T.T) (hz : (srchT T.T 0 0 text).length ≤ 10 ^ 6) (hline : (ap.endLine == cp.line) = true) (hst : noStar y = true)
  (hb : ∀ env,attributeBase e "search_all" env (eval e env) = eval e env := by intro _; rfl) : Ex P E (.Call (.Name "list" p) [.Call (.Attribute e "search_all" ap) [y] [] cp] [] cp2) (.dat (.list ((srchT T.T 0 0 text).map hitD))) := fun f z s ok S Q X q => by
 refine call_bn ok S hg rfl rfl (by decide) keep_type rfl (args_one rfl (call_attr (hb f.env) (by rw [star_cons hst]; rfl) hline (he f z s ok S _ _ fun w s1 k1 r1 pl => ?_)))
 have r1 : w = .ref z.kt := r1
 subst r1
 have S1 := S.kp k1
 refine live_method S1.on (S1.er _ _ hT).tree.L (hC.me (meth_srch _)) ?_
 refine callWith_args S1.on (keep_in (hC.me (meth_srch _)).hk) (by rw [List.all_cons,hst]; rfl) (args_one hst (hy f z s1 ok S1 _ _ fun wt s2 k2 r2 => ?_))
 have S2 := S1.kp k2
 have t := (S2.er _ _ hT).tree
 have r2 : Rd s2.heap z.lv wt (wordD text) := r2
 obtain ⟨tw,vals,rfl,htw,hr⟩ := r2.tuple_inv
 refine ⟨S2.on,search_ok (R := 0) hC S2.on (S2.size ok) (S2.rm.less (Nat.le_trans (by decide) hR)) t.L t.ob hO (by rw [hr.length,List.length_map]) (fun i c hc => ?_) htw hz fun v s3 k3 hl => ⟨S2.on.kp k3,hl f.A (ok.un hu) (S2.rm.less hR) _ _ fun s4 Sx acc c k4 hn hS ha => q (.ref Sx) s4 ((k1.trans k2).trans k4) ?_⟩⟩
 ·obtain ⟨v,ev,rv⟩ := hr.get (i := i) (d := .int c) (by rw [List.getElem?_map,hc]; rfl)
  obtain ⟨t,rfl⟩ := rv.int_inv
  exact ⟨t,ev⟩
 ·refine Rd.list (vs := acc.toList) ⟨_,hS,rfl,c,rfl⟩ (hits_rds ha) fun l => ?_
  obtain ⟨o,e⟩ := S2.lt' Sx l
  rw [hn] at e; cases e
end
section
structure Nice {α : Type} [DecidableEq α] (φ : α → PyData) (k : Nat) : Prop where
 eq : ∀ a b,PyData.eqv (φ a) (φ b) = decide (a = b)
 lay : ∀ a,(φ a).canLay0 = true
 dep : ∀ a,(φ a).depth ≤ k
theorem Nice.int : Nice PyData.int 0 := ⟨fun a b => by simp [PyData.eqv]; by_cases h : a = b <;> simp [h],fun _ => by simp [PyData.canLay0],fun _ => by simp [PyData.depth]⟩
section
variable {α β : Type} [DecidableEq α] [DecidableEq β] {φ : α → PyData} {ψ : β → PyData} {k m : Nat}
theorem Nice.eqAll (h : Nice φ k) : ∀ a b : List α,PyData.eqvAll (a.map φ) (b.map φ) = decide (a = b)
 | [],[] => by simp [PyData.eqvAll]
 | x :: xs,y :: ys => by
  simp only [List.map_cons,PyData.eqvAll,h.eq,h.eqAll xs ys,List.cons.injEq,Bool.decide_and]
 | [],_ :: _ => by simp [PyData.eqvAll]
 | _ :: _,[] => by simp [PyData.eqvAll]
theorem Nice.layAll (h : Nice φ k) : ∀ a : List α,PyData.canLayAll0 (a.map φ) = true
 | [] => by simp [PyData.canLayAll0]
 | x :: xs => by simp only [List.map_cons,PyData.canLayAll0,h.lay,h.layAll xs,Bool.and_self]
theorem Nice.depAll (h : Nice φ k) : ∀ a : List α,PyData.depthAll (a.map φ) ≤ k
 | [] => by simp [PyData.depthAll]
 | x :: xs => by
  simp only [List.map_cons,PyData.depthAll]
  exact Nat.max_le.mpr ⟨h.dep x,h.depAll xs⟩
theorem Nice.list (h : Nice φ k) : Nice (fun xs : List α => PyData.list (xs.map φ)) (k + 1) :=
 ⟨fun a b => by simp only [PyData.eqv,h.eqAll],fun a => by simp only [PyData.canLay0,h.layAll],fun a => by simp only [PyData.depth]; exact Nat.succ_le_succ (h.depAll a)⟩
theorem Nice.tuple (h : Nice φ k) : Nice (fun xs : List α => PyData.tuple (xs.map φ)) (k + 1) :=
 ⟨fun a b => by simp only [PyData.eqv,h.eqAll],fun a => by simp only [PyData.canLay0,h.layAll],fun a => by simp only [PyData.depth]; exact Nat.succ_le_succ (h.depAll a)⟩
theorem Nice.pair (h : Nice φ k) (g : Nice ψ m) : Nice (fun p : α × β => PyData.tuple [φ p.1,ψ p.2]) (max k m + 1) :=
  ⟨fun a b => by
    obtain ⟨a1,a2⟩ := a
    obtain ⟨b1,b2⟩ := b
    simp only [PyData.eqv,PyData.eqvAll,h.eq,g.eq,Bool.and_true,Prod.mk.injEq,Bool.decide_and],
   fun a => by simp only [PyData.canLay0,PyData.canLayAll0,h.lay,g.lay,Bool.and_self],
   fun a => by
    simp only [PyData.depth,PyData.depthAll]
    have := h.dep a.1; have := g.dep a.2; omega⟩
theorem Nice.shaped (h : Nice φ k) (hk : k ≤ 64) (a : α) : shapedB (φ a) = true := by
 unfold shapedB
 rw [h.lay,Bool.true_and,decide_eq_true_eq]
 exact Nat.le_trans (h.dep a) hk
theorem Nice.cmpNe (h : Nice φ k) (hk : k ≤ 64) (a b : α) : cmpD .NotEq (φ a) (φ b) = some (.bool (!decide (a = b))) :=
 (if_pos (Bool.and_eq_true_iff.mpr ⟨h.shaped hk a,h.shaped hk b⟩)).trans (by rw [h.eq])
theorem Nice.anyEq (h : Nice φ k) (a : α) : ∀ xs : List α,((xs.map φ).any fun y => PyData.eqv y (φ a)) = decide (a ∈ xs)
 | [] => by simp
 | x :: xs => by
  simp only [List.map_cons,List.any_cons,h.anyEq a xs,h.eq,List.mem_cons,Bool.decide_or]
  congr 1
  exact decide_eq_decide.mpr eq_comm
theorem Nice.cmpIn (h : Nice φ k) (hk : k ≤ 63) (a : α) (xs : List α) : cmpD .In (φ a) (.list (xs.map φ)) = some (.bool (decide (a ∈ xs))) := by
 exact (if_pos (Bool.and_eq_true_iff.mpr ⟨h.shaped (Nat.le_succ_of_le hk) a,h.list.shaped (Nat.succ_le_succ hk) xs⟩)).trans (by rw [h.anyEq])
theorem Nice.cmpNotIn (h : Nice φ k) (hk : k ≤ 63) (a : α) (xs : List α) : cmpD .NotIn (φ a) (.list (xs.map φ)) = some (.bool (!decide (a ∈ xs))) := by
 exact (if_pos (Bool.and_eq_true_iff.mpr ⟨h.shaped (Nat.le_succ_of_le hk) a,h.list.shaped (Nat.succ_le_succ hk) xs⟩)).trans (by rw [h.anyEq])
end
theorem Nice.cmpIn' {α : Type} [DecidableEq α] {φ : α → PyData} {k : Nat} (h : Nice φ k) (hk : k ≤ 63) (a : α) (xs : List α) {b : Bool} (hb : b = true ↔ a ∈ xs) : cmpD .In (φ a) (.list (xs.map φ)) = some (.bool b) := by
 rw [h.cmpIn hk]
 congr 2
 exact Bool.eq_iff_iff.mpr (decide_eq_true_iff.trans hb.symm)
theorem Nice.cmpNotIn' {α : Type} [DecidableEq α] {φ : α → PyData} {k : Nat} (h : Nice φ k) (hk : k ≤ 63) (a : α) (xs : List α) {b : Bool} (hb : b = true ↔ a ∈ xs) : cmpD .NotIn (φ a) (.list (xs.map φ)) = some (.bool (!b)) := by
 rw [h.cmpNotIn hk]
 congr 3
 exact Bool.eq_iff_iff.mpr (decide_eq_true_iff.trans hb.symm)
noncomputable abbrev lI (xs : List Int) : PyData := .list (xs.map .int)
noncomputable abbrev tI (xs : List Int) : PyData := .tuple (xs.map .int)
noncomputable abbrev hI (h : List Int × Int) : PyData := .tuple [tI h.1,.int h.2]
noncomputable abbrev lT (xs : List (List Int)) : PyData := .list (xs.map tI)
noncomputable abbrev lH (xs : List (List Int × Int)) : PyData := .list (xs.map hI)
theorem nice_tI : Nice tI 1 := Nice.int.tuple
theorem nice_lI : Nice lI 1 := Nice.int.list
theorem nice_hI : Nice hI 2 := nice_tI.pair Nice.int
theorem nice_lH : Nice lH 3 := nice_hI.list
theorem nice_lT : Nice lT 2 := nice_tI.list
noncomputable def psl {α : Type} (xs : List α) (lo hi : Option Int) : List α := (xs.drop (lo.elim 0 (clipAt xs.length))).take (hi.elim xs.length (clipAt xs.length) - lo.elim 0 (clipAt xs.length))
theorem sl_map {α β : Type} (f : α → β) (xs : List α) (lo hi : Option Int) : psl (xs.map f) lo hi = (psl xs lo hi).map f := by
 unfold psl; simp [List.map_drop,List.map_take]
theorem clip_nn {n : Nat} {i : Int} (h : 0 ≤ i) : clipAt n i = min i.toNat n := by
 unfold clipAt; rw [if_neg (Int.not_lt.mpr h)]
 rcases Int.le_total i n with q | q
 ·rw [Int.min_eq_left q,Int.max_eq_right h,Nat.min_eq_left (Int.toNat_le.mpr q)]
 ·rw [Int.min_eq_right q,Int.max_eq_right (Int.natCast_nonneg n),Int.toNat_natCast,Nat.min_eq_right ((Int.le_toNat h).mpr q)]
theorem sl_to {α : Type} {xs : List α} {i : Int} (h : 0 ≤ i) : psl xs none (some i) = xs.take i.toNat := by
 unfold psl
 simp only [Option.elim_none,Option.elim_some,clip_nn h,List.drop_zero,Nat.sub_zero]
 rcases Nat.le_total i.toNat xs.length with h | h
 ·rw [Nat.min_eq_left h]
 ·rw [Nat.min_eq_right h,List.take_of_length_le h,List.take_of_length_le (Nat.le_refl _)]
theorem sl_from {α : Type} {xs : List α} {i : Int} (h : 0 ≤ i) : psl xs (some i) none = xs.drop i.toNat := by
 unfold psl
 simp only [Option.elim_none,Option.elim_some,clip_nn h]
 rw [List.take_of_length_le (by simp)]
 rcases Nat.le_total i.toNat xs.length with h | h
 ·rw [Nat.min_eq_left h]
 ·rw [Nat.min_eq_right h,List.drop_of_length_le h,List.drop_of_length_le (Nat.le_refl _)]
theorem sl_both {α : Type} {xs : List α} {i j : Int} (hi : 0 ≤ i) (hj : 0 ≤ j) : psl xs (some i) (some j) = (xs.take j.toNat).drop i.toNat := by
 unfold psl
 simp only [Option.elim_some,clip_nn hi,clip_nn hj]
 rw [List.drop_take]
 rcases Nat.le_total i.toNat xs.length with h | h
 ·rw [Nat.min_eq_left h]
  rcases Nat.le_total j.toNat xs.length with h' | h'
  ·rw [Nat.min_eq_left h']
  ·rw [Nat.min_eq_right h',List.take_of_length_le (by simp),List.take_of_length_le (by simp; omega)]
 ·rw [Nat.min_eq_right h,List.drop_of_length_le h,List.drop_of_length_le (Nat.le_refl _)]; simp
theorem sl_len {α : Type} {xs : List α} {lo hi : Option Int} : (psl xs lo hi).length ≤ xs.length := by unfold psl; simp; omega
theorem slice_tI {xs : List Int} {lo hi : Option Int} (h : xs.length < 2 ^ 20) : sliceD lo hi (tI xs) = some (tI (psl xs lo hi)) := by
 have h' : fits (xs.map PyData.int).length = true := decide_eq_true (by rw [List.length_map]; exact h)
 exact (if_pos h').trans (congrArg (fun l => some (PyData.tuple l)) (sl_map ..))
theorem slice_l {α : Type} {φ : α → PyData} {xs : List α} {lo hi : Option Int} (h : xs.length < 2 ^ 20) : sliceD lo hi (.list (xs.map φ)) = some (.list ((psl xs lo hi).map φ)) := by
 have h' : fits (xs.map φ).length = true := decide_eq_true (by rw [List.length_map]; exact h)
 exact (if_pos h').trans (congrArg (fun l => some (PyData.list l)) (sl_map ..))
theorem add_r {xs ys : List PyData} (h : xs.length + ys.length < 2 ^ 20) : binD .Add (.list xs) (.list ys) = some (.list (xs ++ ys)) := by
 exact if_pos (show fits (xs.length + ys.length) = true from decide_eq_true h)
theorem item_l {α : Type} {φ : α → PyData} {xs : List α} {i : Int} {v : α} (h0 : 0 ≤ i) (h1 : xs[i.toNat]? = some v) (h2 : i < 2 ^ 20) : itemD (.list (xs.map φ)) i = some (φ v) := by
 unfold itemD
 rw [if_pos ⟨h0,h2⟩]
 simp only [itemsOf,Option.bind_some,List.getElem?_map,h1,Option.map_some]
theorem add_l {α : Type} {φ : α → PyData} {xs ys : List α} (h : xs.length + ys.length < 2 ^ 20) : binD .Add (.list (xs.map φ)) (.list (ys.map φ)) = some (.list ((xs ++ ys).map φ)) := by
 exact (add_r (by rw [List.length_map,List.length_map]; exact h)).trans (by rw [List.map_append])
theorem add_tI {xs ys : List Int} (h : xs.length + ys.length < 2 ^ 20) : binD .Add (tI xs) (tI ys) = some (tI (xs ++ ys)) := by
 exact (if_pos (show fits ((xs.map PyData.int).length + (ys.map PyData.int).length) = true from decide_eq_true (by rw [List.length_map,List.length_map]; exact h))).trans (by rw [tI,List.map_append])
theorem add_i {i j : Int} : binD .Add (.int i) (.int j) = some (.int (i + j)) := rfl
theorem sub_i {i j : Int} : binD .Sub (.int i) (.int j) = some (.int (i - j)) := rfl
theorem mod_i {i j : Int} (h : 0 < j) : binD .Mod (.int i) (.int j) = some (.int (i % j)) :=
 (if_neg (Int.ne_of_gt h)).trans (by rw [Int.fmod_eq_emod_of_nonneg i (Int.le_of_lt h)])
theorem div_i {i j : Int} (h : 0 < j) (h2 : j < 2 ^ 63) : binD .FloorDiv (.int i) (.int j) = some (.int (i / j)) := by
 exact (if_neg (Int.ne_of_gt h)).trans ((if_pos (show small j = true from decide_eq_true (by omega))).trans (by rw [Int.fdiv_eq_ediv_of_nonneg i (Int.le_of_lt h)]))
theorem pow_i {i j : Int} (h : i.natAbs < 2 ^ 63) (h0 : 0 ≤ j) (h1 : j ≤ 100) : binD .Pow (.int i) (.int j) = some (.int (i ^ j.toNat)) := if_pos (by rw [show small i = true from decide_eq_true h,decide_eq_true h0,decide_eq_true h1]; rfl)
theorem cmp_gt {i j : Int} : cmpD .Gt (.int i) (.int j) = some (.bool (decide (j < i))) := rfl
theorem len_l {xs : List PyData} (h : xs.length < 2 ^ 20) : lenD (.list xs) = some (.int xs.length) := by
 exact if_pos (show fits xs.length = true from decide_eq_true h)
theorem len_t {xs : List PyData} (h : xs.length < 2 ^ 20) : lenD (.tuple xs) = some (.int xs.length) := by
 exact if_pos (show fits xs.length = true from decide_eq_true h)
theorem len_lm {α : Type} {φ : α → PyData} {xs : List α} (h : xs.length < 2 ^ 20) : lenD (.list (xs.map φ)) = some (.int xs.length) := by rw [len_l (by simpa using h),List.length_map]
theorem len_tm {α : Type} {φ : α → PyData} {xs : List α} (h : xs.length < 2 ^ 20) : lenD (.tuple (xs.map φ)) = some (.int xs.length) := by rw [len_t (by simpa using h),List.length_map]
theorem range_1 {b : Nat} (h : b ≤ 2 ^ 40) : rangeOk 0 b 1 = true ∧ rangeL 0 b 1 = (List.range b).map fun i : Nat => PyData.int i := by
 refine ⟨by simp [rangeOk]; omega,?_⟩
 have : rangeN 0 b 1 = b := by unfold rangeN Builtin.Range.rangeSize; simp; split <;> omega
 unfold rangeL
 rw [this]; simp
theorem range_2 {a b : Nat} (ha : a ≤ 2 ^ 40) (h : b ≤ 2 ^ 40) : rangeOk a b 1 = true ∧ rangeL a b 1 = (List.range (b - a)).map fun i : Nat => PyData.int ((a : Int) + i) := by
 refine ⟨by simp [rangeOk]; omega,?_⟩
 have : rangeN a b 1 = b - a := by unfold rangeN Builtin.Range.rangeSize; simp; split <;> omega
 unfold rangeL
 rw [this]; simp
theorem flat_succ {α : Type} (f : Nat → List α) (s : Nat) : (List.range (s + 1)).flatMap f = (List.range s).flatMap f ++ f s := by
 rw [List.range_succ,List.flatMap_append]; simp
theorem flat_len {α β : Type} {f : α → List β} {b : Nat} : ∀ l : List α,(∀ a ∈ l,(f a).length ≤ b) → (l.flatMap f).length ≤ l.length * b
 | [],_ => by simp
 | a :: l,h => by
  have h1 := flat_len l fun x hx => h x (List.mem_cons_of_mem _ hx)
  have h2 := h a List.mem_cons_self
  rw [List.flatMap_cons,List.length_append,List.length_cons,Nat.succ_mul]
  omega
end
section
section
variable {P : Pr} {E : StE} {α β : Type} {elt c it2 : Expr} {x y : Str} {xp yp : Pos}
theorem sub_set {v : Ent} (h : E x = none) : ∀ w e,E w = some e → setE E x v w = some e := fun w e q => by
 unfold setE
 by_cases hw : w = x
 ·rw [hw,h] at q; cases q
 ·rw [if_neg hw]; exact q
theorem bind_1 {d : PyData} (hx : (isLC P.names x && okName x) = true) : bindE P (.Name x xp) E d = some (setE E x (.val (.dat d))) := if_pos hx
theorem cr_map {φ ψ : α → PyData} (hx : (isLC P.names x && okName x) = true) (h0 : E x = none) : ∀ {L : List α},(∀ a ∈ L,Ex P (setE E x (.val (.dat (φ a)))) elt (.dat (ψ a))) → CompR P elt (.Name x xp) [] E (L.map φ) (L.map ψ)
 | [],_ => .nil
 | a :: L,h => .last (bind_1 hx) (sub_set h0) t_nil (h a List.mem_cons_self) (cr_map hx h0 fun b hb => h b (List.mem_cons_of_mem _ hb))
theorem cr_filter {φ ψ : α → PyData} (q : α → Bool) (hx : (isLC P.names x && okName x) = true) (h0 : E x = none) : ∀ {L : List α},(∀ a ∈ L,Xt P (setE E x (.val (.dat (φ a)))) c (q a)) → (∀ a ∈ L,q a = true → Ex P (setE E x (.val (.dat (φ a)))) elt (.dat (ψ a))) → CompR P elt (.Name x xp) [c] E (L.map φ) ((L.filter q).map ψ)
 | [],_,_ => .nil
 | a :: L,hc,h => by
  have ih := cr_filter (φ := φ) (ψ := ψ) q hx h0 (fun b hb => hc b (List.mem_cons_of_mem _ hb)) fun b hb => h b (List.mem_cons_of_mem _ hb)
  have h1 := hc a List.mem_cons_self
  cases hq : q a with
  | true =>
   rw [hq] at h1
   rw [List.filter_cons_of_pos hq]
   exact .last (bind_1 hx) (sub_set h0) (t_one h1) (h a List.mem_cons_self hq) ih
  | false =>
   rw [hq] at h1
   rw [List.filter_cons_of_neg (by rw [hq]; nofun)]
   exact .skip (bind_1 hx) (sub_set h0) (t_one h1) ih
theorem r_comp {t it : Expr} {ifs : List Expr} {sc : Scope} {pos : Pos} {items ds : List PyData} (hu : P.un = true) (c : CompE P E elt t it ifs sc items ds) : Xd P E (.ListComp elt [⟨t,it,ifs,0⟩] sc pos) (.list ds) := fun f z s ok S Q X q =>
 l_comp hu c f z s ok S Q X fun a vs n s' k _ hn ha hr => q _ s' k ⟨_,vs,rfl,⟨_,ha,rfl,n,rfl⟩,hr.less fun b l => .inl l⟩
end
end
section
theorem FinI.outsOk {ws W : List (List Int)} {T : List PNd} (I : FinI ws W T) (h16 : ∀ k ∈ ws,k.length ≤ 16) : OutsOk T := by
 intro i c n j hn hl
 have hi : i < W.length := by rw [← I.pi.len]; exact (List.getElem?_eq_some_iff.mp hn).1
 have hw : W[i]? = some W[i] := List.getElem?_eq_getElem hi
 obtain ⟨h1,h2⟩ := ((I.pi.done i _ n hw hn).tr.at_ c j).mp hl
 refine ⟨fun e => ?_,?_⟩
 ·subst e
  have := Option.some.inj (h1.symm.trans I.ok.z)
  rw [this] at h2
  simp at h2
 ·obtain ⟨x,nj,hx,hnj,ho⟩ := I.out j _ h1
  refine ⟨nj,_,hnj,ho,?_⟩
  have hm := (I.mem x).mp (List.mem_of_getElem? hx)
  have hxl : x.length ≤ 16 := by
   rcases hm with rfl | ⟨k,hk,hp⟩
   ·simp
   ·exact Nat.le_trans hp.length_le (h16 k hk)
  exact Nat.le_trans (ends_len _) (by omega)
structure FinT (ws : List (List Int)) (Te : List PNd) : Prop where
 e : finT 20 50000 (trieOf ws) = some Te
 o : OutsOk Te
 s : ∀ t : List Int,t.length ≤ 200 → srchT Te 0 0 t = hitsOf (qW ws) t ∧ (srchT Te 0 0 t).length ≤ 10 ^ 6
end
section
theorem nl : Kd.law.rw = true := rfl
noncomputable def But (x : Str) (E E' : StE) : Prop := ∀ y : Str,y ≠ x → y ≠ ("" : Str) → E' y = E y
inductive AdsI {α : Type} (g : α → List Int) (L : List α) (x : Str) (T0 : List PNd) (E : StE) (i : Nat) (E' : StE) : Prop
 | mk (T : TS) (e : E' "" = some (.tr T false)) (h : T.T = ((L.take i).map g).foldl addT T0) (c : T.cn = T.T.length) (b : TB T.T (16 * i)) (f : But x E E')
theorem WS_adds {C : Cx} (hC : Kn C) {R : Nat} (hR : 3 ≤ R) {nm : Nm} {E : StE} {α : Type} {φ : α → PyData} {g : α → List Int} {L : List α} {x t : Str} {xp tp ap cp sp sp2 : Pos} {it e : Expr} {T : TS} (hT : E "" = some (.tr T false)) (hc : T.cn = T.T.length) (hb : TB T.T 0) (ht : E t = some (.val .kt)) (htx : t ≠ x) (ht0 : t ≠ ("" : Str)) (hx0 : x ≠ ("" : Str)) (hx : (isLC nm x && okName x) = true)
  (hi : It ⟨C,R,nm,true,.law⟩ E it (L.map φ)) (hL : L.length ≤ 60) (hg : ∀ a ∈ L,(g a).length ≤ 16) (hs : noStar e = true) (hline : (ap.endLine == cp.line) = true) (he : ∀ a ∈ L,∀ E',But x E E' → E' x = some (.val (.dat (φ a))) → Ex ⟨C,R,nm,true,.law⟩ E' e (.dat (wordD (g a)))) (hsw : ∀ env,swapsWith (.Call (.Attribute (.Name t tp) "add" ap) [e] [] cp) none sp.line env = pure false := by intro _; rfl) :
  WS ⟨C,R,nm,true,.law⟩ E (.For (.Name x xp) it [.Expr (.Call (.Attribute (.Name t tp) "add" ap) [e] [] cp) sp] [] sp2) fun fl E' => fl = .next ∧ ∃ T',E' "" = some (.tr T' false) ∧ T'.T = (L.map g).foldl addT T.T ∧ But x E E' := by
 refine WS_for (items := L.map φ) (AdsI g L x T.T E) rfl hi ⟨T,hT,rfl,hc,hb,fun _ _ _ => rfl⟩ (fun i d E1 hd ⟨T1,e1,h,c,b,fr⟩ => ?_) fun E1 ⟨T1,e1,h,c,b,fr⟩ => ⟨rfl,T1,e1,by rw [h,List.length_map,List.take_length],fr⟩
 rw [List.getElem?_map] at hd
 obtain ⟨a,ha,rfl⟩ := Option.map_eq_some_iff.mp hd
 have ham := List.mem_of_getElem? ha
 have hi' := (List.getElem?_eq_some_iff.mp ha).1
 have e1' : setE E1 x (.val (.dat (φ a))) "" = some (.tr T1 false) := by unfold setE; rw [if_neg (Ne.symm hx0)]; exact e1
 have et : setE E1 x (.val (.dat (φ a))) t = some (.val .kt) := by unfold setE; rw [if_neg htx,fr t htx ht0]; exact ht
 have fr' : But x E (setE E1 x (.val (.dat (φ a)))) := fun y h1 h2 => by unfold setE; rw [if_neg h1]; exact fr y h1 h2
 refine ⟨_,bind_1 hx,W_cons (WS.mono (WS_meth ((add_ok hC (R := 0) c b (by have := hg a ham; omega)).mono hR fun _ _ => id) (hC.me (meth_add _)) nl e1' (n_val et) (vs_cons (he a ham _ fr' (if_pos rfl)) hs vs_nil) hline (by show 1 < 20; decide) (fun _ => rfl) hsw) fun fl E2 q => ?_)⟩
 obtain ⟨rfl,T2,f2,⟨rfl,h2,c2⟩,rfl⟩ := q
 refine W_nil ⟨T2,rfl,?_,by rw [c2,h2],?_,fun y h1 h2 => ?_⟩
 ·rw [h2,h,List.take_add_one,ha,List.map_append,List.foldl_append]; rfl
 ·rw [h2]
  have := b.add (g a)
  intro n hn
  have := this n hn
  have := hg a ham
  omega
 ·show setE _ "" _ y = _
  unfold setE
  rw [if_neg h2]; exact fr' y h1 h2
theorem WS_fin {C : Cx} (hC : Kn C) {R : Nat} (hR : 22 ≤ R) {nm : Nm} {E : StE} {ws : List (List Int)} {Te : List PNd} {T : TS} {t : Str} {tp ap cp sp : Pos} (hT : E "" = some (.tr T false)) (h : T.T = trieOf ws) (F : FinT ws Te) (ht : E t = some (.val .kt)) (hline : (ap.endLine == cp.line) = true) :
  WS ⟨C,R,nm,true,.law⟩ E (.Expr (.Call (.Attribute (.Name t tp) "finalize" ap) [] [] cp) sp) fun fl E' => fl = .next ∧ ∃ T',T'.T = Te ∧ E' = setE E "" (.tr T' true) :=
 WS.mono (WS_meth ((fin_ok hC (F := 20) (D := 50000) (T := T) (h ▸ F.e)).mono hR fun _ _ => id) (hC.me (meth_fin _)) nl hT (n_val ht) vs_nil hline (by show 0 < 20; decide)) fun fl E' ⟨e,T',f',g,q⟩ => ⟨e,T',g.2,by rw [q,g.1]⟩
end
section
theorem mask_val {cn : Nm} {E : StE} {x : Str} {v : V} (h : cn.lookup x = some .free) (e : E x = some (.val v)) : maskE cn E x = some (.val v) := by unfold maskE; rw [h,e]
theorem rg_nat {P : Pr} {E : StE} {e : Expr} {b : Nat} (hu : P.un = true) (h : Rg P E e 0 b 1) (hb : b ≤ 2 ^ 40) : It P E e ((List.range b).map fun i : Nat => PyData.int i) := by
 have := it_rg hu h (range_1 hb).1
 rw [(range_1 hb).2] at this; exact this
theorem rg_from {P : Pr} {E : StE} {e : Expr} {a b : Nat} (hu : P.un = true) (h : Rg P E e a b 1) (ha : a ≤ 2 ^ 40) (hb : b ≤ 2 ^ 40) : It P E e ((List.range (b - a)).map fun i : Nat => PyData.int ((a : Int) + i)) := by
 have := it_rg hu h (range_2 ha hb).1
 rw [(range_2 ha hb).2] at this; exact this
theorem range_at {α : Type} {f : Nat → α} {n i : Nat} {d : α} (h : ((List.range n).map f)[i]? = some d) : i < n ∧ d = f i := by
 rw [List.getElem?_map] at h
 obtain ⟨j,hj,rfl⟩ := Option.map_eq_some_iff.mp h
 obtain ⟨h1,h2⟩ := List.getElem?_eq_some_iff.mp hj
 rw [List.length_range] at h1
 rw [List.getElem_range] at h2
 exact ⟨h1,by rw [h2]⟩
theorem xd_conv {P : Pr} {E : StE} {x : Expr} {d d' : PyData} (h : Xd P E x d) (e : d = d') : Xd P E x d' := e ▸ h
theorem frz_val {p : Str → Bool} {E : StE} {x : Str} {e : Ent} (h : E x = some e) (n : ∀ l,e ≠ .live l) : freezeP p E x = some e := by
 unfold freezeP
 rw [h]
 cases e <;> first | rfl | exact (n _ rfl).elim
theorem frz_live {p : Str → Bool} {E : StE} {x : Str} {l : List PyData} (h : E x = some (.live l)) (n : p x = true) : freezeP p E x = some (.val (.dat (.list l))) := by
 unfold freezeP
 rw [h]
 exact if_pos n
theorem getD_at {w : List Int} {j : Nat} (h : j < w.length) : w[j]? = some (w.getD j 0) := by rw [List.getD_eq_getElem?_getD,List.getElem?_eq_getElem h]; rfl
end
section
section
variable {ws g : List (List Int)}
end
theorem lend_last {p : List Int → Bool} {n : Nat} (hp : ∀ u,p u = true → u.length ≤ n) (x : List Int) : lend p (x.drop (x.length - n)) = lend p x := by
 apply lend_congr
 intro u hu
 constructor
 ·exact fun h => h.trans (List.drop_suffix _ _)
 ·intro h
  have hl := hp u hu
  obtain ⟨y,rfl⟩ := h
  rw [List.length_append,List.drop_append]
  have : (y.length + u.length - n) - y.length = 0 := by omega
  rw [this,List.drop_zero]
  exact List.suffix_append _ _
end
section
noncomputable def fBd (i : Nat) : List Stmt := match s1 i with
 | .FunctionDef _ _ b _ _ _ _ _ _ _ => b
 | _ => []
noncomputable def fNm (i : Nat) : Nm := match s1 i with
 | .FunctionDef _ _ _ _ _ _ sc _ _ _ => sc.names
 | _ => []
noncomputable abbrev Pf (C : Cx) (R i : Nat) : Pr := ⟨C,R,fNm i,true,.law⟩
theorem hv_dat {C : Cx} {d : PyData} : ∀ z : Lc,∀ z' : Lc,∀ h w,(∀ b,z.lv b → z'.lv b) → VR C h z' (.dat d) w → VR C h z (.dat d) w := fun _ _ _ _ l r => Rd.less r l
section
variable {P : Pr} {E : StE} {α : Type} {elt c : Expr} {x y : Str} {xp yp : Pos}
theorem sub_two {v w : Ent} (h : E x = none) (h1 : E y = none) : ∀ u e,E u = some e → setE (setE E x v) y w u = some e := fun u e q => by
 unfold setE
 by_cases hu : u = y
 ·rw [hu,h1] at q; cases q
 ·rw [if_neg hu]
  by_cases hu : u = x
  ·rw [hu,h] at q; cases q
  ·rw [if_neg hu]; exact q
theorem r_compL {elt t it : Expr} {ifs : List Expr} {sc : Scope} {pos : Pos} {items ds : List PyData} (hu : P.un = true) (c : CompE P E elt t it ifs sc items ds) : Ex P E (.ListComp elt [⟨t,it,ifs,0⟩] sc pos) (.dat (.list ds)) := (l_comp hu c).ev
end
theorem r_from {P : Pr} {E : StE} {v i : Expr} {p q : Pos} {w : List Int} {k : Int} {j : Nat} (hv : Xd P E v (tI w)) (hi : Xd P E i (.int k)) (hk : k = (j : Int)) (hw : w.length < 2 ^ 20) : Ex P E (.Subscript v (.Slice (some i) none none p) q) (.dat (tI (w.drop j))) := by
 subst hk
 exact ev_conv (r_slice (hi := none) hv (o_some hi) o_none (slice_tI hw)) (by rw [sl_from (Int.natCast_nonneg _),Int.toNat_natCast])
theorem r_to {P : Pr} {E : StE} {v i : Expr} {p q : Pos} {w : List Int} {k : Int} {j : Nat} (hv : Xd P E v (tI w)) (hi : Xd P E i (.int k)) (hk : k = (j : Int)) (hw : w.length < 2 ^ 20) : Ex P E (.Subscript v (.Slice none (some i) none p) q) (.dat (tI (w.take j))) := by
 subst hk
 exact ev_conv (r_slice (lo := none) hv o_none (o_some hi) (slice_tI hw)) (by rw [sl_to (Int.natCast_nonneg _),Int.toNat_natCast])
theorem len3 {ws : List Value} (h : ws.length = 3) : ∃ a b c,ws = [a,b,c] := by
 cases ws with
 | nil => exact absurd (show 0 = 3 from h) (by decide)
 | cons a ws => cases ws with
  | nil => exact absurd (show 1 = 3 from h) (by decide)
  | cons b ws => cases ws with
   | nil => exact absurd (show 2 = 3 from h) (by decide)
   | cons c ws => exact ⟨a,b,c,by rw [List.eq_nil_of_length_eq_zero (Nat.succ.inj (Nat.succ.inj (Nat.succ.inj h)))]⟩
end
section
noncomputable def DictE (h : Heap) (d : Addr) (es : Array DictEntry) (ep : Nat) : Prop := ∃ o,h.get? d = some o ∧ o.ExactDict ∧ o.data = .dict es ep
section
variable {prog : Program} {w : World} {A : Around} {E : Value → Shared → Prop} {s : Shared} {it d : Addr} {es : Array DictEntry} {ep i : Nat}
theorem DictE.ty (m : DictE s.heap d es ep) : s.TypeIs (.ref d) "dict" := let ⟨o,e,c,_⟩ := m; ⟨o,e,c.1⟩
theorem iterD {Q : Value → Shared → Prop} (hd : (d == sysModules) = false) (m : DictE s.heap d es ep)
  (q : Q (.ref s.heap.objs.size) { s with heap := s.heap.push { cls := .type "dict_keyiterator",data := .fields #[.ref d,.int 0 0,.int es.size 0,.int ep 0] } }) : wpAny (model prog w) A (pyIter (.ref d)) Q E s := by
 have hT := m.ty
 obtain ⟨o,ho,hc,hdat⟩ := m
 refine wpAny_pyIter_slot hT PySem.F.slot_dict_iter (wpAny_call_entry PySem.F.slot_dict_iter hT PySem.F.entry_dict_iter ?_ (PySem.F.args_dict_iter_1 _))
 unfold Builtin.«dict.__iter__»
 refine wpAny_bind ?_
 unfold Builtin.Dict.dictSlotNone
 refine wpAny_bind (wpAny_notOrdered_dict hT (wpAny_pure ?_))
 show wpAny _ _ (Builtin.Dict.showsAll d >>= _) _ _ s
 unfold Builtin.Dict.showsAll
 rw [if_neg (by rw [hd]; exact Bool.false_ne_true)]
 refine wpAny_bind (wpAny_pure (wpAny_bind (wpAny_dictEntries ho hdat (wpAny_bind (wpAny_dictEpoch ho hdat ?_)))))
 exact wpAny_bind (wpAny_newObj_type (wpAny_pure ⟨_,rfl,"dict_keyiterator",_,⟨_,Heap.get?_push_size _ rfl,rfl⟩,PySem.F.slot_dict_keyiterator_next.lookup,q⟩))
theorem nextD_item {e : DictEntry} {Q : Option Value → Shared → Prop} (hit : s.heap.IsKeyIter it d i es.size ep) (m : DictE s.heap d es ep) (hx : es[i]? = some e)
  (q : ∀ h',h'.IsKeyIter it d (i + 1) es.size ep → Heap.SameBut it s.heap h' → Q (some e.key) { s with heap := h' }) : wpAny (model prog w) A (pyNext (.ref it)) Q E s := by
 obtain ⟨o,ho,hc,hd⟩ := id hit
 obtain ⟨od,hod,_,hdd⟩ := m
 have hT := hit.typeIs
 unfold pyNext
 refine wpAny_bind (wpAny_attempt (wpAny_callSpecial?_slot (name := Str.ofString "__next__") hT PySem.F.slot_dict_keyiterator_next
  (wpAny_call_entry PySem.F.slot_dict_keyiterator_next hT PySem.F.entry_dict_keyiterator_next ?_ (PySem.F.args_dict_keyiterator_next_1 _))))
 refine wpAny_bind (wpAny_pure (wpAny_bind (wpAny_bind (wpAny_bind (wpAny_typeNameOfWhole_keyiter hT (wpAny_pure (wpAny_bind (wpAny_fieldsOf ho hd ?_))))))))
 rw [if_neg (show ¬ (Builtin.Dict_items.ownsTuple "dict_keyiterator" = true) by decide)]
 show wpAny _ _ (if (Value.ref d == Value.none) = true then _ else _) _ _ s
 rw [if_neg (show ¬ ((Value.ref d == Value.none) = true) from Bool.false_ne_true)]
 refine wpAny_bind (wpAny_pure (wpAny_bind (wpAny_dictEntries hod hdd ?_)))
 rw [if_neg (by rw [bne_self_eq_false]; exact Bool.false_ne_true)]
 refine wpAny_bind (wpAny_pure (wpAny_bind (wpAny_dictEpoch hod hdd ?_)))
 rw [if_neg (by rw [bne_self_eq_false]; exact Bool.false_ne_true)]
 refine wpAny_pure ?_
 show wpAny _ _ (match (if (i : Int) < 0 then none else es[((i : Int)).toNat]?) with | some e => _ | none => _) _ _ s
 rw [if_neg (Int.not_lt.mpr (Int.natCast_nonneg i)),Int.toNat_natCast,hx]
 refine wpAny_bind (wpAny_bind (wpAny_typeNameOfWhole_keyiter hT (wpAny_pure (wpAny_bind (wpAny_isOneOf_keyiter hT ?_)))))
 show wpAny _ _ (setField (.ref it) 1 (rawInt ((i : Int) + 1)) >>= _) _ _ s
 refine wpAny_bind (wpAny_setField ho hd (Nat.le_of_ble_eq_true rfl) ?_)
 have hit' : (s.heap.update it (Obj.mapFields (·.setIfInBounds 1 (rawInt ((i : Int) + 1))))).IsKeyIter it d (i + 1) es.size ep :=
  ⟨_,Heap.get?_update_self _ ho (Obj.isFreed_of_fields (Obj.data_mapFields hd _)),(Obj.cls_mapFields ..).trans hc,by rw [Obj.data_mapFields hd]; rfl⟩
 refine wpAny_bind (wpAny_holding (wpAny_bind (wpAny_isOneOf_keyiter (s := { s with heap := s.heap.update it (Obj.mapFields (·.setIfInBounds 1 (rawInt ((i : Int) + 1)))) }) hit'.typeIs ?_)))
 exact wpAny_pure (wpAny_pure ⟨_,rfl,wpAny_pure (q _ hit' (Heap.SameBut.update ..))⟩)
theorem nextD_end {Q : Option Value → Shared → Prop} (hh : A.handled = none) (hit : s.heap.IsKeyIter it d i es.size ep) (m : DictE s.heap d es ep) (hx : es[i]? = none)
  (q : ∀ h',Heap.ExtBut it s.heap h' → Q none { s with heap := h' }) : wpAny (model prog w) A (pyNext (.ref it)) Q E s := by
 obtain ⟨o,ho,hc,hd⟩ := id hit
 obtain ⟨od,hod,_,hdd⟩ := m
 have hT := hit.typeIs
 unfold pyNext
 refine wpAny_bind (wpAny_attempt (wpAny_callSpecial?_slot (name := Str.ofString "__next__") hT PySem.F.slot_dict_keyiterator_next
  (wpAny_call_entry PySem.F.slot_dict_keyiterator_next hT PySem.F.entry_dict_keyiterator_next ?_ (PySem.F.args_dict_keyiterator_next_1 _))))
 refine wpAny_bind (wpAny_pure (wpAny_bind (wpAny_bind (wpAny_bind (wpAny_typeNameOfWhole_keyiter hT (wpAny_pure (wpAny_bind (wpAny_fieldsOf ho hd ?_))))))))
 rw [if_neg (show ¬ (Builtin.Dict_items.ownsTuple "dict_keyiterator" = true) by decide)]
 show wpAny _ _ (if (Value.ref d == Value.none) = true then _ else _) _ _ s
 rw [if_neg (show ¬ ((Value.ref d == Value.none) = true) from Bool.false_ne_true)]
 refine wpAny_bind (wpAny_pure (wpAny_bind (wpAny_dictEntries hod hdd ?_)))
 rw [if_neg (by rw [bne_self_eq_false]; exact Bool.false_ne_true)]
 refine wpAny_bind (wpAny_pure (wpAny_bind (wpAny_dictEpoch hod hdd ?_)))
 rw [if_neg (by rw [bne_self_eq_false]; exact Bool.false_ne_true)]
 refine wpAny_pure ?_
 show wpAny _ _ (match (if (i : Int) < 0 then none else es[((i : Int)).toNat]?) with | some e => _ | none => _) _ _ s
 rw [if_neg (Int.not_lt.mpr (Int.natCast_nonneg i)),Int.toNat_natCast,hx]
 refine wpAny_bind (wpAny_bind (wpAny_typeNameOfWhole_keyiter hT (wpAny_pure ?_)))
 show wpAny _ _ (setField (.ref it) 0 .none >>= _) _ _ s
 refine wpAny_bind (wpAny_setField ho hd (Nat.le_of_ble_eq_true rfl) ?_)
 show wpAny _ _ (newExc (.type "StopIteration") [] >>= _) _ _ _
 refine wpAny_bind ?_
 unfold newExc newTuple
 refine wpAny_bind (wpAny_newObj_type ?_ (by size_fits))
 refine wpAny_bind (m := firstArgMember _ _) (wpAny_of_eq (a := Value.none) rfl ?_)
 refine wpAny_newObj_type ?_ (by size_fits)
 unfold raiseNew
 refine wpAny_bind (wpAny_handled ?_)
 rw [show A.in1.handled = none from hh]
 refine wpAny_bind (wpAny_pure (wpAny_throw ?_))
 refine wpAny_bind (wpAny_isInstance (T := "StopIteration") (b := true) ⟨_,Heap.get?_push_size _ rfl,rfl⟩ isSubtype_stop ?_)
 exact wpAny_pure (q _ (((Heap.SameBut.update ..).extBut.push _).push _))
theorem DictE.at {h h' : Heap} (m : DictE h d es ep) (k : ∀ o,h.get? d = some o → h'.get? d = some o) : DictE h' d es ep := let ⟨o,e,r⟩ := m; ⟨o,k o e,r⟩
theorem walksD (hh : A.handled = none) (I : Addr) (hne : d ≠ I) : Walks prog w A I [I,d] [I] es.size (fun i v => ∃ e,es[i]? = some e ∧ v = e.key) (fun i h => h.IsKeyIter I d i es.size ep ∧ DictE h d es ep) where
 sub := fun b hb => by rw [List.mem_singleton.mp hb]; exact List.mem_cons_self
 frame := fun _ _ _ st hk => ⟨st.1.at fun o e => hk I List.mem_cons_self o e,st.2.at fun o e => hk d (List.mem_cons_of_mem _ List.mem_cons_self) o e⟩
 item := fun i s Q E hi st q => nextD_item st.1 st.2 (Array.getElem?_eq_getElem hi) fun h' a b => q _ h' s.toks ⟨_,Array.getElem?_eq_getElem hi,rfl⟩ ⟨a,st.2.at fun o e => (b.2 d hne).trans e⟩ fun c o n e => (b.2 c fun x => n (x ▸ List.mem_cons_self)).trans e
 done := fun s Q E st q => nextD_end hh st.1 st.2 (Array.getElem?_eq_none (Nat.le_refl _)) fun h' b => q h' s.toks fun c o n e => b c o (fun x => n (x ▸ List.mem_cons_self)) e
 self := fun _ _ _ _ st q => wpAny_pyIter_keyiter st.1 q
theorem srcD (lo : (d == sysModules) = false) : KdlSrc prog w "dict" d d es.size (fun i v => ∃ e,es[i]? = some e ∧ v = e.key) (fun h => DictE h d es ep) where
 type := fun _ m => m.ty
 there := fun _ ⟨_,e,_⟩ => ⟨Heap.lt_size e,Heap.lt_size e⟩
 keep := fun _ _ m hk => m.at fun o e => hk d (.inl rfl) o e
 notList := by decide
 notTuple := by decide
 hint := fun _ _ _ _ m q => kdl_hint_dict m.ty q
 iter := fun _ _ hh m => ⟨_,_,(fun _ _ q => iterD lo m q),walksD hh _ (let ⟨_,e,_⟩ := m; Nat.ne_of_lt (Heap.lt_size e)),⟨⟨_,Heap.get?_push_size _ rfl,rfl,rfl⟩,m.at fun o e => Heap.get?_push_of_some _ e⟩⟩
theorem collectS {T : String} {r : Addr} {n : Nat} {P : Nat → Value → Prop} {OK : Heap → Prop} {R : List Value → Shared → Prop} (K : KdlSrc prog w T r d n P OK) (hh : A.handled = none) (m : OK s.heap) (hn : n ≤ sizeLine)
  (h : ∀ h' tk acc,(∀ b o,s.heap.get? b = some o → h'.get? b = some o) → ItemsOf P acc n → R acc.toList { s with heap := h',toks := tk }) : wpAny (model prog w) A (collect (.ref r)) R E s := by
 have hlt := K.there _ m
 unfold collect
 refine wpAny_bind (wpAny_runValue (codeAny_builtin entry_proto_collect' ?_))
 rw [Around.under_plainId PySem.F.plain_proto_collect _]
 refine wpAny_bind (m := newList []) (wpAny_newObj_type ?_)
 refine wpAny_pure ⟨plainId_quiet PySem.F.plain_list_iadd _,codeAny_builtin entry_list_iadd' ?_⟩
 rw [Around.under_plainId PySem.F.plain_list_iadd _]
 have key := kdl_extend (A := A) (s := { s with heap := s.heap.push { cls := .type "list",data := .seq ([] : List Value).toArray } })
  (R := fun (q : Result) (s' : Shared) => ∃ (h' : Heap) (tk : Nat) (acc : Array Value) (c : Nat),q = .ok (.ret (.ref s.heap.objs.size)) ∧ s' = { s with heap := h',toks := tk } ∧
   (∀ b o,s.heap.get? b = some o → h'.get? b = some o) ∧ h'.get? s.heap.objs.size = some { cls := .type "list",dict := none,data := .seq acc c,slots := #[] } ∧ ItemsOf P acc n)
  K hh (K.keep _ _ m fun b _ o e => Heap.get?_push_of_some _ e) s.heap.objs.size (Nat.ne_of_gt hlt.1) (Nat.ne_of_gt hlt.2) (.ref s.heap.objs.size) 0 (Heap.get?_push_size _ rfl)
  (fun h' tk acc c hk e hi => ⟨h',tk,acc,c,rfl,rfl,fun b o e => hk b o (Nat.ne_of_lt (Heap.lt_size e)) (Heap.get?_push_of_some _ e),e,hi⟩) hn
 refine wpAny_mono key (fun fin s' x => ?_) fun e s' x => ?_
 ·cases fin with
  | done f =>
   obtain ⟨h',tk,acc,c,e,rfl,hk,hS,hi⟩ := x
   cases e
   exact wpAny_bind (m := load s.heap.objs.size) (wpAny_load hS (wpAny_pure (h h' tk acc hk hi)))
  | again c₁ =>
   refine ⟨x.1,codeAny_mono x.2 fun q s₂ y => ?_⟩
   obtain ⟨h',tk,acc,c,rfl,rfl,hk,hS,hi⟩ := y
   exact wpAny_bind (m := load s.heap.objs.size) (wpAny_load hS (wpAny_pure (h h' tk acc hk hi)))
 ·obtain ⟨_,_,_,_,e',_⟩ := x
  cases e'
end
end
section
section
variable {C : Cx} {h : Heap} {lv : Addr → Prop} {k : List Int} {a : Addr}
theorem rd_key {w : Value} (r : Rd h lv w (tI k)) : ∃ a,w = .ref a ∧ Key C h k a := by
 refine byG fun G9 k9 => ?_
 obtain ⟨a,vs,e,⟨o,e1,c,n,d⟩,r⟩ := r.tuple_inv
 refine k9 ?_
 clear k9 G9
 exact ⟨a,e,o,_,n,e1,c,d,key_items r⟩
theorem key_rd (K : Key C h k a) : Rd h lv (.ref a) (tI k) := by
 obtain ⟨o,vs,n,e,c,d,r⟩ := K
 exact Rd.tuple (vs := vs.toList) ⟨o,e,c,n,d⟩ (items_rds r)
theorem Kp.tup {lo : Nat} {s s' : Shared} (k : Kp lo s s') : TupKeep s.heap s'.heap := fun _ _ _ _ e c _ => k.get e (ne_tf c)
end
section
variable {C : Cx} {h : Heap} {α : Type} {R : α → Value → Prop} {D : List (List Int × α)} {ys : List (List Int × Addr × Value)} {o : Obj} {a : Addr}
theorem atKey_cons {K : Type} [DecidableEq K] (y : K × Addr × Value) (ys : List (K × Addr × Value)) (k : K) : atKey (y :: ys) k = if y.1 = k then some y.2 else atKey ys k := by
 unfold atKey
 rw [List.find?_cons]
 by_cases e : y.1 = k
 ·rw [if_pos e,decide_eq_true e]; rfl
 ·rw [if_neg e,decide_eq_false e]
theorem at_look (k : List Int) {D : List (List Int × α)} {ys : List (List Int × Addr × Value)} (h : All2 (fun p q => p.1 = q.1 ∧ R p.2 q.2.2) D ys) : (∀ v,D.lookup k = some v → ∃ p,atKey ys k = some p ∧ R v p.2) ∧ (D.lookup k = none → atKey ys k = none) := by
 induction h with
 | nil => exact ⟨fun _ e => none_some e,fun _ => rfl⟩
 | @cons p y _ _ r _ ih =>
  rw [List.lookup_cons,atKey_cons]
  by_cases e : y.1 = k
  ·rw [if_pos e,show (k == p.1) = true from beq_iff_eq.mpr (e.symm.trans r.1.symm)]
   exact ⟨fun v' q => ⟨_,rfl,Option.some.inj q ▸ r.2⟩,fun q => none_some q.symm⟩
  ·rw [if_neg e,show (k == p.1) = false from beq_eq_false_iff_ne.mpr fun q => e (r.1.symm.trans q.symm)]
   exact ih
theorem DicA.of (x : DicA C h R D o) (e : h.get? a = some o) : ∃ ys,h.DictOfH (wK C) a ys ∧ All2 (fun p q => p.1 = q.1 ∧ R p.2 q.2.2) D ys := x.casesOn fun ys es ep x d e' k nd al => ⟨ys,⟨o,es,ep,e,x,d,e',k,nd⟩,al⟩
theorem DicA.ent (x : DicA C h R D o) (e : h.get? a = some o) : ∃ es ep ys,DictE h a es ep ∧ es.toList = ys.map (entryOfKey (wK C)) ∧ (∀ y ∈ ys,Key C h y.1 y.2.1) ∧ All2 (fun p q => p.1 = q.1 ∧ R p.2 q.2.2) D ys := x.casesOn fun ys es ep x d e' k nd al => ⟨es,ep,ys,⟨o,e,x,d⟩,e',k,al⟩
end
noncomputable def datD (D : List (List Int × PyData)) : List (List Int × V) := D.map fun p => (p.1,.dat p.2)
theorem datD_look {D : List (List Int × PyData)} {k : List Int} : (datD D).lookup k = (D.lookup k).map .dat := by
 unfold datD
 induction D with
 | nil => rfl
 | cons p D ih =>
  rw [List.map_cons,List.lookup_cons,List.lookup_cons,ih]
  cases (k == p.1) <;> rfl
theorem al_dat {C : Cx} {h : Heap} {z : Lc} {D : List (List Int × PyData)} {ys : List (List Int × Addr × Value)} (x : All2 (fun p q => p.1 = q.1 ∧ Rd h z.lv q.2.2 p.2) D ys) : All2 (fun p q => p.1 = q.1 ∧ VR C h z p.2 q.2.2) (datD D) ys := by
 induction x with
 | nil => exact .nil
 | cons r _ ih => exact .cons r ih
section
variable {P : Pr} {f : Fx} {z : Lc} {E : StE} {s s' : Shared} {D : List (List Int × V)} {k : List Int} {x : Str} {v : V}
noncomputable def Dx (P : Pr) (E : StE) (e : Expr) (D : List (List Int × V)) : Prop := ∀ f z s,FOk P f → St P f z E s → ∀ Q X : Value → Shared → Prop,(∀ a o s',Kp P.C.lo s s' → P.C.lo ≤ a → s'.heap.get? a = some o → DicA P.C s'.heap (VR P.C s'.heap z) D o → Q (.ref a) s') → wpAny P.C.M f.A (eval e f.env) Q X s
theorem dx_live {p : Pos} (h : E x = some (.dic D)) : Dx P E (.Name x p) D := fun f z s ok S Q X q =>
 live_name (e := .dic D) ok S h trivial fun o e r => q _ o s (.refl ..) ((S.er x _ h).live (e := .dic D) trivial).2.2.1.lo e r.2
theorem dx_val {e : Expr} {D : List (List Int × PyData)} (h : Ex P E e (.dic D)) : Dx P E e (datD D) := fun f z s ok S Q X q =>
 h f z s ok S Q X fun w s' k' r => by
  obtain ⟨a,o,rfl,lo,e,_,ys,es,ep,x,d,e',kk,nd,al⟩ := r
  exact q a o s' k' lo e ⟨ys,es,ep,x,d,e',kk,nd,al_dat al⟩
theorem Kp.dicA {lo : Nat} {a : Addr} {o : Obj} (k : Kp lo s s') (e : s.heap.get? a = some o) (x : DicA P.C s.heap (VR P.C s.heap z) D o) : s'.heap.get? a = some o ∧ DicA P.C s'.heap (VR P.C s'.heap z) D o :=
 ⟨k.get e x.solid.nf,x.mono k.tup fun _ _ r => VR.kp r k⟩
theorem Rm.key {C : Cx} {R : Nat} {A : Around} (M : Rm C R A s) : (wK C).room A.in1 := tupleKind_room_in1 (by have := M.units; omega)
theorem t_inD {l r : Expr} {p : Pos} (hl : Ex P E l (.dat (tI k))) (hr : Dx P E r D) (hs : noSet r = true) : Xt P E (.Compare l [.In] [r] p) (D.lookup k).isSome := fun f z s ok S Q X q =>
 wpAny_isTrue_Compare1 (hl f z s ok S _ _ fun w s1 k1 r1 => hr f z s1 ok (S.kp k1) _ _ fun a o s2 k2 lo e x => by
  obtain ⟨b,rfl,K⟩ := rd_key (C := P.C) r1
  obtain ⟨ys,m,al⟩ := x.of e
  refine wpAny_in_heap (S.kp (k1.trans k2)).rm.key (K.keep k2.tup) (not_sys lo) m (wpAny_truthy_bool ?_)
  have hq : (atKey ys k).isSome = (D.lookup k).isSome := by
   cases hl : D.lookup k with
   | none => rw [(at_look k al).2 hl]; rfl
   | some v => obtain ⟨p,e,_⟩ := (at_look k al).1 v hl; rw [e]; rfl
  rw [hq]
  exact q _ ((k1.trans k2).trans (Kp.of_keep fun _ _ e => e))) (noSet_marks hs)
theorem t_notInD {l r : Expr} {p : Pos} (hl : Ex P E l (.dat (tI k))) (hr : Dx P E r D) (hs : noSet r = true) : Xt P E (.Compare l [.NotIn] [r] p) (!(D.lookup k).isSome) := fun f z s ok S Q X q =>
 wpAny_isTrue_Compare1 (hl f z s ok S _ _ fun w s1 k1 r1 => hr f z s1 ok (S.kp k1) _ _ fun a o s2 k2 lo e x => by
  obtain ⟨b,rfl,K⟩ := rd_key (C := P.C) r1
  obtain ⟨ys,m,al⟩ := x.of e
  refine wpAny_notIn_heap (S.kp (k1.trans k2)).rm.key (K.keep k2.tup) (not_sys lo) m (wpAny_truthy_bool ?_)
  have hq : (atKey ys k).isSome = (D.lookup k).isSome := by
   cases hl : D.lookup k with
   | none => rw [(at_look k al).2 hl]; rfl
   | some v => obtain ⟨p,e,_⟩ := (at_look k al).1 v hl; rw [e]; rfl
  rw [hq]
  exact q _ ((k1.trans k2).trans (Kp.of_keep fun _ _ e => e))) (noSet_marks hs)
theorem r_getD {e1 e2 : Expr} {pos : Pos} (h1 : Dx P E e1 D) (h2 : Ex P E e2 (.dat (tI k))) (hl : D.lookup k = some v) (hs : notSlice e2 = true) : Ex P E (.Subscript e1 e2 pos) v := fun f z s ok S Q X q =>
 Subscript_ (h1 f z s ok S _ _ fun a o s1 k1 lo e x => h2 f z s1 ok (S.kp k1) _ _ fun w s2 k2 r2 => by
  obtain ⟨b,rfl,K⟩ := rd_key (C := P.C) r2
  obtain ⟨e2,x2⟩ := k2.dicA e x
  obtain ⟨ys,m,al⟩ := x2.of e2
  obtain ⟨p,hp,r⟩ := (at_look k al).1 v hl
  exact tail_any (T := "dict") (id := "dict.__getitem__") (ops := [_,_]) m.typeIs rfl (wpAny_getItem_heap (S.kp (k1.trans k2)).rm.key K m hp (q _ _ ((k1.trans k2).trans (Kp.of_keep fun _ _ e => e)) r)) (subscripted_plain hs _ _))
theorem WS_setD {e2 e3 : Expr} {p xp sp : Pos} (h : E x = some (.dic D)) (h2 : Ex P E e2 (.dat (tI k))) (h3 : Ex P E e3 v) (hl : D.lookup k = none) (hz : D.length ≤ 1000) (hs : ∀ env,swapsWith e3 (some (.Subscript (.Name x xp) e2 p)) sp.line env = pure false := by intro _; rfl) :
  WS P E (.Assign [.Subscript (.Name x xp) e2 p] e3 sp) fun fl E' => fl = .next ∧ E' = setE E x (.dic (D ++ [(k,v)])) := fun f z s ok S X =>
 wpAny_Assign_Subscript (h3 f z s ok S _ _ fun w3 s1 k1 r3 => live_name (e := .dic D) ok (S.kp k1) h trivial fun o e0 r0 => h2 f z s1 ok (S.kp k1) _ _ fun w2 s2 k2 r2 => by
  obtain ⟨b,rfl,K⟩ := rd_key (C := P.C) r2
  obtain ⟨e2,x2⟩ := k2.dicA e0 r0.2
  obtain ⟨ys,m,al⟩ := x2.of e2
  have S2 := S.kp (k1.trans k2)
  refine wpAny_setItem_heap S2.rm.key K m (fun h' m' hs' => ?_) (by rw [← al.length,sizeLine_eq]; exact Nat.le_trans hz (by decide))
  rw [storedH_new ((at_look k al).2 hl)] at m'
  refine byG fun G9 k9 => ?_
  obtain ⟨o',es,ep,e',x',d',q1,q2,q3⟩ := m'
  refine k9 ?_
  clear k9 G9
  refine ⟨.next,_,z,(S2.wr (e' := .dic (D ++ [(k,v)])) h trivial trivial e2 e' (fun vs d => Data.noConfusion (d'.symm.trans d)) (fun b o hb e => (hs'.2 b hb).trans e) fun st => ⟨r0.1,_,es,ep,x',d',q1,q2,q3,?_⟩).1,rfl,rfl,rfl⟩
  exact (al.imp fun a b r => ⟨r.1,r.2.gr (z' := z) st rfl fun _ _ e => e⟩).append (.cons ⟨rfl,(VR.kp r3 k2).gr (z' := z) st rfl fun _ _ e => e⟩ .nil)) (hs f.env)
theorem WS_newD {xp dp sp : Pos} (hk : P.kd = .rd) (hx : isLC P.names x = true) (ho : okName x = true) : WS P E (.Assign [.Name x xp] (.Dict [] [] dp) sp) fun fl E' => fl = .next ∧ E' = setE E x (.dic []) := fun f z s ok S X =>
 wpAny_Assign_Name (wpAny_Dict_empty (S.born ok Kp.push' (S.size ok) (get_none_size _) (Heap.get?_push_size _ rfl) (e := .dic []) trivial hx ho ⟨hk,[],#[],0,⟨rfl,rfl,rfl⟩,rfl,rfl,(fun _ h => absurd h List.not_mem_nil),List.nodup_nil,.nil⟩ fun z' s2 S2 _ => ⟨.next,_,z',S2,rfl,rfl,rfl⟩)) rfl
theorem WS_dict1 {e1 e2 : Expr} {xp dp sp : Pos} {j : Nat} (hk : P.kd = .rd) (hx : isLC P.names x = true) (ho : okName x = true) (h1 : Ex P E e1 (.dat (tI k))) (h2 : Ex P E e2 (.nd j)) : WS P E (.Assign [.Name x xp] (.Dict [some e1] [e2] dp) sp) fun fl E' => fl = .next ∧ E' = setE E x (.dic [(k,.nd j)]) := fun f z s ok S X =>
 wpAny_Assign_Name (wpAny_Dict_any rfl rfl (fun q => nomatch q) (Nat.le_of_ble_eq_true rfl) (evalPairs_cons (h1 f z _ ok (S.kp Kp.push') _ _ fun w1 s1 k1 r1 => wpAny_bind (h2 f z s1 ok (S.kp (Kp.push'.trans k1)) _ _ fun w2 s2 k2 r2 => wpAny_bind (wpAny_standAt (wpAny_pure (evalPairs_nil (by
  obtain ⟨b,rfl,K⟩ := rd_key (C := P.C) r1
  have k12 := k1.trans k2
  have kp := (Kp.push' (lo := P.C.lo) (s := s) (o := { cls := .type "dict",data := .dict #[] })).trans k12
  have e0 : s2.heap.get? s.heap.objs.size = some { cls := .type "dict",data := .dict #[] } := k12.get (Heap.get?_push_size _ rfl) (ne_fr (by decide))
  have m2 : s2.heap.DictOfH (wK P.C) s.heap.objs.size [] := ⟨_,#[],0,e0,⟨rfl,rfl,rfl⟩,rfl,rfl,(fun _ h => absurd h List.not_mem_nil),List.nodup_nil⟩
  unfold storeAll
  rw [List.forIn_cons]
  refine wpAny_bind (wpAny_bind (wpAny_dictSet_heap (hsz := Nat.zero_le _) (knd := wK P.C) (show f.A.units < _ from Nat.lt_of_succ_lt (S.kp kp).rm.key) (K.keep k2.tup) m2 fun h' m' hs' => wpAny_pure ?_))
  rw [storedH_new rfl] at m'
  refine byG fun G9 k9 => ?_
  obtain ⟨o',es,ep,e',x',d',q1,q2,q3⟩ := m'
  refine k9 ?_
  clear k9 G9
  have kk : Kp P.C.lo s { s2 with heap := h',toks := s2.toks + (wK P.C).draws k } := Md.kp (Z := (· = s.heap.objs.size)) kp (rest_md (C := P.C) (fun b o n e => (hs'.2 b n).trans e) e0 (ne_fr (by decide)) ⟨o',e',fun vs d => Data.noConfusion (d'.symm.trans d)⟩) fun b o e q => absurd (Heap.lt_size e) (by rw [q]; exact Nat.lt_irrefl _)
  dsimp only
  rw [List.forIn_nil]
  exact wpAny_pure (S.born ok kk (S.size ok) (get_none_size _) e' (e := .dic [(k,.nd j)]) trivial hx ho ⟨hk,_,es,ep,x',d',q1,q2,q3,.cons ⟨rfl,r2⟩ .nil⟩ fun z' s3 S3 _ => ⟨.next,_,z',S3,rfl,rfl,rfl⟩)))))))) ) rfl
end
end
section
theorem dat_al {C : Cx} {h : Heap} {z : Lc} {lv : Addr → Prop} (hl : ∀ b,lv b → z.lv b) {D : List (List Int × PyData)} : ∀ {ys : List (List Int × Addr × Value)},All2 (fun p q => p.1 = q.1 ∧ VR C h z p.2 q.2.2) (datD D) ys → All2 (fun p q => p.1 = q.1 ∧ Rd h lv q.2.2 p.2) D ys := by
 induction D with
 | nil => intro ws x; cases x; exact .nil
 | cons d ds ih => intro ws x; cases x with | cons r rs => exact .cons ⟨r.1,Rd.less r.2 hl⟩ (ih rs)
section
variable {P : Pr} {f : Fx} {z : Lc} {E : StE} {s s' : Shared} {k : List Int} {x : Str} {v : V}
theorem St.frzD {D : List (List Int × PyData)} (S : St P f z E s) (h : E x = some (.dic (datD D))) : St P f ⟨fun b => z.lv b ∧ b ≠ z.pl x,z.kt,z.dx,z.ad,z.pl⟩ (setE (fun _ => none) x (.val (.dic D))) s := by
 refine byG fun G9 k9 => ?_
 obtain ⟨r1,r2,r3,o,r4,r5⟩ := (S.er x _ h).live (e := .dic (datD D)) trivial
 refine k9 ?_
 clear k9 G9
 have inv : ∀ {y e},setE (fun _ => none) x (.val (.dic D)) y = some e → y = x ∧ e = .val (.dic D) := fun {y e} q => by
  unfold setE at q
  by_cases hy : y = x
  ·rw [if_pos hy] at q; exact ⟨hy,(Option.some.inj q).symm⟩
  ·rw [if_neg hy] at q; exact none_some q
 refine ⟨S.on,S.rm,S.md,fun b l => S.lt b l.1,fun b l => S.lb b l.1,⟨S.ll,Ne.symm r3.nl⟩,fun b l => ⟨S.lu b l,fun q => r3.nc (q ▸ l)⟩,S.ns,S.oc,fun y e q => ?_,fun y _ e _ h1 _ l => ?_,S.zt⟩
 ·obtain ⟨rfl,rfl⟩ := inv q
  refine .slot _ r1 ⟨_,o,rfl,r3.lo,r4,fun l => l.2 rfl,?_⟩
  obtain ⟨ys,es,ep,x,d,e,k,nd,al⟩ := r5.2
  exact ⟨ys,es,ep,x,d,e,k,nd,dat_al (fun b l => l.1) al⟩
 ·obtain ⟨_,rfl⟩ := inv h1
  exact l.elim
theorem W_frzD {D : List (List Int × PyData)} {b : List Stmt} {Q : Fl → StE → Prop} (h : E x = some (.dic (datD D))) (k : W P (setE (fun _ => none) x (.val (.dic D))) b Q) : W P E b Q := fun f z s ok S X => k f _ s ok (S.frzD h) X
theorem hv_dic {C : Cx} {D : List (List Int × PyData)} : ∀ z : Lc,∀ z' : Lc,∀ h w,(∀ b,z.lv b → z'.lv b) → VR C h z' (.dic D) w → VR C h z (.dic D) w := fun _ _ _ _ l r => by
 obtain ⟨a,o,e,lo,h1,h2,r⟩ := r
 exact ⟨a,o,e,lo,h1,fun q => h2 (l a q),r.mono (fun _ _ _ _ e _ _ => e) fun _ _ r => Rd.less r l⟩
theorem iter_dic {C : Cx} {A : Around} {lv : Addr → Prop} {α : Type} {R : α → Value → Prop} {D : List (List Int × α)} {a : Addr} {o : Obj} (hh : A.handled = none) (lo : (a == sysModules) = false) (e : s.heap.get? a = some o) (nl : ¬ lv a) (x : DicA C s.heap R D o) : IterOk C A lv s (.ref a) (D.map fun p => tI p.1) := by
 intro Q X q
 obtain ⟨es,ep,ys,m,hes,hk,al⟩ := x.ent e
 have hl : es.size = (D.map fun p => tI p.1).length := by rw [List.length_map,al.length,← Array.length_toList,hes,List.length_map]
 have hne : a ≠ s.heap.objs.size := ne_size e
 refine iterD lo m (q s.heap.objs.size [s.heap.objs.size,a] (fun i v => ∃ e,es[i]? = some e ∧ v = e.key) (fun i h => h.IsKeyIter s.heap.objs.size a i es.size ep ∧ DictE h a es ep) _ Kp.push' (get_none_size _) List.mem_cons_self (fun b hb => ?_) ⟨Eq.subst (motive := fun n => Walks C.prog C.w A s.heap.objs.size [s.heap.objs.size,a] [s.heap.objs.size] n (fun i v => ∃ e,es[i]? = some e ∧ v = e.key) (fun i h => h.IsKeyIter s.heap.objs.size a i es.size ep ∧ DictE h a es ep)) hl (walksD hh _ hne),⟨⟨_,Heap.get?_push_size _ rfl,rfl,rfl⟩,m.at fun o e => Heap.get?_push_of_some _ e⟩,fun i h st b hb o' e' => ?_,fun i h ⟨⟨o1,e1,c1,d1⟩,_⟩ => ⟨o1,_,_,e1,c1,d1,by decide⟩,fun b hb => ?_,fun i v hi hv => ?_⟩)
 ·rcases List.mem_cons.mp hb with q | q
  ·exact .inl q
  ·exact .inr ⟨o,(List.mem_singleton.mp q).symm ▸ e⟩
 ·obtain ⟨⟨o1,e1,c1,_⟩,o2,e2,c2,_⟩ := st
  rcases List.mem_cons.mp hb with q | q
  ·rw [q,e1] at e'; rw [← Option.some.inj e',c1]; exact ne_fr (by decide)
  ·rw [List.mem_singleton.mp q,e2] at e'; rw [← Option.some.inj e',c2.1]; exact ne_fr (by decide)
 ·rcases List.mem_cons.mp hb with q | q
  ·exact .inl q
  ·exact .inr ⟨o,(List.mem_singleton.mp q).symm ▸ Heap.get?_push_of_some _ e,.inr ⟨x.solid,(List.mem_singleton.mp q).symm ▸ nl⟩⟩
 ·obtain ⟨en,he,rfl⟩ := hv
  rw [← Array.getElem?_toList,hes,List.getElem?_map] at he
  obtain ⟨y,hy,rfl⟩ := Option.map_eq_some_iff.mp he
  obtain ⟨p,hp,r⟩ := al.get hy
  refine ⟨tI p.1,by rw [List.getElem?_map,hp]; rfl,Rd.kp (lo := C.lo) ?_ Kp.push'⟩
  rw [r.1]
  exact key_rd (hk y (List.mem_of_getElem? hy))
theorem it_dic {e : Expr} {D : List (List Int × PyData)} (hu : P.un = true) (hs : noSet e = true) (h : Ex P E e (.dic D)) : It P E e (D.map fun p => tI p.1) :=
 ⟨fun env x => noSet_fold hs,fun f z s ok S Q X k => h f z s ok S _ _ fun w s' k' r => by
  obtain ⟨a,o,rfl,lo,e,nl,x⟩ := r
  exact k _ _ k' (iter_dic (ok.un hu) (not_sys lo) e nl x)⟩
theorem e_pop {p ap cp : Pos} {l : List PyData} {d : PyData} (h : E x = some (.live (l ++ [d]))) (hz : l.length < 2 ^ 19) (hline : (ap.endLine == cp.line) = true) : Ee P E (.Call (.Attribute (.Name x p) "pop" ap) [] [] cp) (.dat d) (setE E x (.live l)) := fun f z s ok S Q X q => by
 refine call_attr rfl rfl hline (live_name (e := .live (l ++ [d])) ok S h trivial fun o e ⟨vs0,n,eo,rs⟩ pl => ?_)
 subst eo
 have hlen := rs.length
 have hlt : l.length < vs0.length := by rw [hlen,List.length_append]; exact Nat.lt_succ_self _
 obtain ⟨v,hv,r⟩ := rs.get (i := l.length) (d := d) (by rw [List.getElem?_append_right (Nat.le_refl _),Nat.sub_self]; rfl)
 obtain ⟨vs,rfl⟩ : ∃ vs,vs0 = vs ++ [v] := ⟨vs0.take l.length,by
  have e1 : l.length + 1 = vs0.length := by rw [hlen,List.length_append]; rfl
  rw [← (List.getElem?_eq_some_iff.mp hv).2]
  refine (List.take_append_drop l.length vs0).symm.trans (congrArg (vs0.take l.length ++ ·) ?_)
  rw [List.drop_eq_getElem_cons hlt,e1,List.drop_length]⟩
 have hl : vs.length = l.length := by rw [List.length_append,List.length_append] at hlen; exact Nat.succ.inj hlen
 refine getMethod_builtin ⟨_,e,rfl⟩ PySem.F.plainAttrs_list PySem.F.slot_list_pop PySem.F.type_list_pop (fun a q => by cases q; exact ⟨_,e,rfl⟩) ?_
 refine callWith_args S.on keep_builtin rfl (args_nil (env := f.env) ⟨S.on,?_⟩)
 refine call_meets PySem.F.slot_list_pop ⟨_,e,rfl⟩ PySem.F.entry_list_pop (PySem.F.args_list_pop_1 _) (PySem.MeetsSeq.list_pop_last (z.pl x) _ n v (by rw [List.size_toArray,List.length_append,List.length_singleton,Nat.add_sub_cancel,List.getElem?_toArray,List.getElem?_append_right (Nat.le_refl _),Nat.sub_self]; rfl) (by rw [List.size_toArray,List.length_append,hl,sizeLine_eq]; exact Nat.le_trans hz (by decide))) ⟨e,?_⟩
 have e1 : (s.heap.update (z.pl x) (Obj.mapSeq fun xs => xs.eraseIdxIfInBounds ((vs ++ [v]).toArray.size - 1))).get? (z.pl x) = some (lobj vs (n + 1)) := by
  rw [Heap.get?_update_self _ e (by rw [mapSeq_pop]; rfl),mapSeq_pop]
 obtain ⟨S1,st1⟩ := S.wr (tk := s.toks) (e' := .live l) h trivial trivial e e1 (fun _ q => Data.noConfusion q) (fun b o hb e => (Heap.get?_update_other _ _ (Ne.symm hb)).trans e) fun st => ⟨vs,n + 1,rfl,(Rds.of hl fun i v' d' h1 h2 => by
  obtain ⟨w,hw,r⟩ := rs.get (i := i) (d := d') (by rw [List.getElem?_append_left (List.getElem?_eq_some_iff.mp h2).1]; exact h2)
  rw [List.getElem?_append_left (List.getElem?_eq_some_iff.mp h1).1,h1] at hw
  cases hw; exact r).mono st⟩
 exact q _ _ S1 (Rd.mono st1 r)
theorem e_getD {e2 : Expr} {xp pos : Pos} {E' : StE} {D : List (List Int × V)} (h : E x = some (.dic D)) (h2 : Ee P E e2 (.dat (tI k)) E') (h' : E' x = some (.dic D)) (hl : D.lookup k = some v) (hs : notSlice e2 = true) : Ee P E (.Subscript (.Name x xp) e2 pos) v E' := fun f z s ok S Q X q =>
 Subscript_ (live_name (e := .dic D) ok S h trivial fun o e r0 => h2 f z s ok S _ _ fun w s2 S2 r2 => by
  refine byG fun G9 k9 => ?_
  obtain ⟨b,rfl,K⟩ := rd_key (C := P.C) r2
  obtain ⟨_,_,_,o2,e2,r⟩ := (S2.er x _ h').live (e := .dic D) trivial
  obtain ⟨ys,m,al⟩ := r.2.of e2
  obtain ⟨p,hp,r⟩ := (at_look k al).1 v hl
  refine k9 ?_
  clear k9 G9
  exact tail_any (T := "dict") (id := "dict.__getitem__") (ops := [_,_]) m.typeIs rfl (wpAny_getItem_heap S2.rm.key K m hp (q _ _ (S2.kp Kp.tok) (r.kp (lo := P.C.lo) Kp.tok))) (subscripted_plain hs _ _))
theorem e_slot {T : TS} {fin : Bool} {i : Nat} {n : PNd} {E' : StE} {e : Expr} {attr : Str} {pos : Pos} {k : Nat} (Sl : SlotIs P.C.K 34 attr k) (he : Ee P E e (.nd i) E') (hT : E' "" = some (.tr T fin)) (hn : T.T[i]? = some n) (hv : slotV n i k = some v)
  (hh : ∀ env,eval (.Attribute e attr pos) env = (do
   let o ← eval e env
   standAt pos.atName
   let r ← holding [o] (getAttr o attr true)
   letTemporaryGo e o r
   pure r) := by intro _; with_unfolding_all rfl) : Ee P E (.Attribute e attr pos) v E' := fun f z s ok S Q X q =>
 Attribute_any_ (he f z s ok S _ _ fun w s1 S1 r => slot_go Sl hT hn hv ok S1 r fun w s2 k2 r2 => q w s2 (S1.kp k2) r2) (hh f.env)
theorem WS_un3 {e : Expr} {x y u : Str} {p q r tp sp : Pos} {n : Nat} {a b c : PyData} (hu : P.un = true) (h : Ex P E e (.dat (.tuple [a,b,c]))) (hx : isLC P.names x = true) (ox : okName x = true) (hy : isLC P.names y = true) (oy : okName y = true) (hz : isLC P.names u = true) (oz : okName u = true) (hs : ∀ env,swapsWithSole [.Tuple [.Name x p,.Name y q,.Name u r] n tp] e sp.line env = pure false) (hw : ∀ env,swappedStores [.Tuple [.Name x p,.Name y q,.Name u r] n tp] e env = pure none) :
  WS P E (.Assign [.Tuple [.Name x p,.Name y q,.Name u r] n tp] e sp) fun fl E' => fl = .next ∧ E' = setE (setE (setE E x (.val (.dat a))) y (.val (.dat b))) u (.val (.dat c)) := fun f z s ok S X => by
 refine wpAny_Assign_stores (h f z s ok S _ _ fun w s1 k1 r1 => ?_) (hs f.env) (hw f.env)
 have S1 := S.kp k1
 have r1 : Rd s1.heap z.lv w (.tuple [a,b,c]) := r1
 refine byG fun G9 k9 => ?_
 obtain ⟨ad,vs,rfl,ht,hr⟩ := r1.tuple_inv
 obtain ⟨va,ha,ra⟩ := hr.get (i := 0) rfl
 obtain ⟨vb,hb,rb⟩ := hr.get (i := 1) rfl
 obtain ⟨vc,hc,rc⟩ := hr.get (i := 2) rfl
 refine k9 ?_
 clear k9 G9
 obtain rfl : vs = [va,vb,vc] := List.ext_getElem? fun
  | 0 => ha
  | 1 => hb
  | 2 => hc
  | n + 3 => (List.getElem?_eq_none (by rw [hr.length]; exact Nat.le_add_left 3 n)).trans rfl
 show wpAny _ _ (assign (.Tuple [.Name x p,.Name y q,.Name u r] n tp) f.env (.ref ad)) _ _ _
 refine ((assign_Tuple_tuple (ok.un hu) ht rfl rfl fun h' he' => ?_))
 have k : Kp P.C.lo s1 { s1 with heap := h' } := Kp.of_keep (tk := s1.toks) fun b o e => he' b o (ne_size e) e
 refine wpAny_bind (wpAny_holding (wpAny_assign_Name ((S1.kp k).store ok hx ox (v := .dat a) (Rd.kp ra k) fun s2 S2 st2 _ => ?_)))
 refine wpAny_bind (wpAny_holding (wpAny_assign_Name (S2.store ok hy oy (v := .dat b) ((Rd.kp rb k).mono st2) fun s3 S3 st3 _ => ?_)))
 refine wpAny_bind (wpAny_holding (wpAny_assign_Name (S3.store ok hz oz (v := .dat c) (((Rd.kp rc k).mono st2).mono st3) fun s4 S4 st4 _ => wpAny_pure ⟨.next,_,z,S4,rfl,rfl,rfl⟩)))
end
end
section
noncomputable def RdFn (P : Pr) (T : TS) (val : Value) (vs : List V) (v : V) : Prop :=
 ∀ (A : Around) (s : Shared) (z : Lc) (ws : List Value),(P.un = true → A.handled = none) → Rm P.C P.R A s → P.C.On s → P.C.lo ≤ s.heap.objs.size → (∀ b,z.lv b → ∃ o,s.heap.get? b = some o ∧ ∀ vs,o.data ≠ .fields vs) → Live P.C s.heap z.kt z.dx T z.ad true → (∀ (j : Nat) a,z.ad[j]? = some a → s.heap.get? a.tab = T.ob[j]?) → (∀ b,PlT z.kt z.dx z.ad b → z.lv b) → All2 (VR P.C s.heap z) vs ws →
  ∀ Q X : Value → Shared → Prop,(∀ w s',Kp P.C.lo s s' → VR P.C s'.heap z v w → Q w s') → wpAny P.C.M A (call val ws) Q X s
theorem rd_run {C : Cx} {R : Nat} {names names' : Nm} {un : Bool} {kd' : Kd} {fa : Addr} {fd : FuncData} {ps : List Str} {body : List Stmt} {vs : List V} {d : PyData} {T : TS} (hF : FnIs C fa fd ps body names) (gb : ∀ x,isBn x = true → nsIn C.K mainGlobals x = some none) (hb : ∀ ws,ws.length = ps.length → bindArgs fd ⟨ws,[]⟩ = pure (ps.zip ws)) (hl : vs.length = ps.length) (ho : ps.all okName = true)
  (hw : W ⟨C,R,names,un,.rd⟩ (setE (initE ps vs) "" (.tr T true)) body fun fl _ => fl = .ret (.dat d)) : RdFn ⟨C,R + 1,names',un,kd'⟩ T (.ref fa) vs (.dat d) := fun A s z ws hu M on hlo lt L ob pl rs Q X q => by
 have hE : ∀ x e,setE (initE ps vs) "" (.tr T true) x = some e → (x = ("" : Str) ∧ e = .tr T true) ∨ ∃ v w,e = .val v ∧ (x,w) ∈ ps.zip ws ∧ VR C s.heap z v w := fun x e h => by
  unfold setE at h
  by_cases hx : x = ("" : Str)
  ·rw [if_pos hx] at h; exact .inl ⟨hx,(Option.some.inj h).symm⟩
  ·rw [if_neg hx] at h; exact .inr (initE_get rs x e h)
 refine call_W (Z := fun _ => False) hF gb hu M on hlo lt (fun _ _ h => h.elim) ⟨fun x v hx => ?_,fun x T' fin hx => ?_,fun x e hx l => ?_⟩ (rs.length.symm.trans hl) (hb ws (rs.length.symm.trans hl)) hw fun fl E' f z' s' w S h0 hZ hl0 hc r q' => ?_
 ·rcases hE x _ hx with ⟨_,e⟩ | ⟨v',w,h1,h2,h3⟩
  ·cases e
  ·cases h1
   exact ⟨w,h2,List.all_eq_true.mp ho x (by rw [← zip_fst (rs.length.symm.trans hl)]; exact List.mem_map.mpr ⟨_,h2,rfl⟩),h3⟩
 ·rcases hE x _ hx with ⟨h1,e⟩ | ⟨v',w,h1,_⟩
  ·cases e; exact ⟨h1,L,ob,(fun q => Kd.noConfusion q),(fun q => no_tf q),fun _ => pl⟩
  ·cases h1
 ·rcases hE x _ hx with ⟨_,e⟩ | ⟨v',w,h1,_⟩
  ·subst e; exact l
  ·subst h1; exact l
 ·subst q'
  have md := S.md
  rw [h0,hZ] at md
  exact q w s' ⟨fun b o e => md.heap b o e id,md.os,md.gens⟩ (hv_dat z z' _ w (fun b l => S.lu b (hc ▸ l)) r)
section
variable {P : Pr} {E : StE} {T : TS}
theorem r_rd {x : Str} {val : Value} {args : List Expr} {p q : Pos} {vs : List V} {v : V} (h : RdFn P T val vs v) (hk : P.kd = .law ∨ P.kd = .rd) (hT : E "" = some (.tr T true)) (ha : Xs P E args vs) (hg : isGl P.names x = true) (hn : nsIn P.C.K mainGlobals x = some (some val)) (hv : keepIn P.C.K val = true) : Ex P E (.Call (.Name x p) args [] q) v := fun f z s ok S Q X k =>
 call_name S.on (keep_in hv) ha.1 (fun Q X q => name_global S.on ok.ok (gl_kind ok hg).1 hn (gl_kind ok hg).2 q) (ha.2 f z s _ ok S _ _ fun ws s' k' rs => by
  have S' := S.kp k'
  have t := (S'.er _ _ hT).tree
  exact ⟨S'.on,h f.A s' z ws ok.un S'.rm S'.on (S'.size ok) S'.lt t.L t.ob (fun b p => hk.elim (fun e => (t.wr (by rw [e]; rfl) b p).1) fun e => S'.lu b (t.lc e b p)) rs Q X fun w s2 k2 => k w s2 (k'.trans k2)⟩)
theorem r_min {e1 e2 : Expr} {p pos : Pos} {a b : Int} (h1 : Xd P E e1 (.int a)) (h2 : Xd P E e2 (.int b)) (hs : noStar e1 = true) (hs' : noStar e2 = true) (hg : isGl P.names "min" = true) (hu : P.un = true) : Ex P E (.Call (.Name "min" p) [e1,e2] [] pos) (.dat (.int (if b < a then b else a))) :=
 call_b2 h1 h2 hs hs' hg rfl rfl (by decide) keep_builtin fun f s t u ok Q X q => min_two_ints (ok.un hu) fun h' tk hk => q _ _ (Kp.of_keep hk) fun z => by
  show Rd _ _ _ (.int _)
  split <;> exact rd_int
end
end
section
section
open SetTable
noncomputable abbrev kh (C : Cx) (k : List Int) : Int := tupleKeyHash (iK C) k
noncomputable def Ents (C : Cx) (h : Heap) (L : List (Nat × Int × Value)) : Prop := ∀ e ∈ L,∃ k a,e.2 = (kh C k,.ref a) ∧ Key C h k a
variable {C : Cx} {A : Around} {E : Value → Shared → Prop} {s : Shared} {M : Nat} {t : SetTable} {L : List (Nat × Int × Value)} {k : List Int} {a b : Addr}
set_option smartUnfolding false in
theorem no_class {Q : Bool → Shared → Prop} (K : Key C s.heap k b) (q : Q false s) : wpAny C.M A (ofAClassStatement 8 (.ref b)) Q E s := by
 have hT := K.typeIs
 obtain ⟨o,items,n,ho,hc,hd,hi⟩ := K
 refine wpAny_bind (wpAny_typeOf hT ?_)
 show wpAny _ _ (pure true >>= _) _ _ _
 refine wpAny_bind (wpAny_pure ?_)
 show wpAny _ _ (seqItems? (.ref b) >>= _) _ _ _
 refine wpAny_bind (wpAny_seqItems ho hd (wpAny_bind ?_))
 rw [← Array.forIn_toList]
 refine wpAny_forIn_list _ (fun rest r s' => r.1 = none ∧ s' = s ∧ ∀ v ∈ rest,carriedByValue v = true) _ ?_ ?_ _ _ ⟨rfl,rfl,hi.byValue⟩
 ·rintro v rest r s' ⟨hr,rfl,hall⟩
  have hv := hall v List.mem_cons_self
  have e : ofAClassStatement 7 v = pure false := by
   cases v with
   | ref a => exact Bool.noConfusion hv
   | _ => rfl
  refine wpAny_bind ?_
  show wpAny _ _ (ofAClassStatement 7 v) _ _ _
  rw [e]
  exact wpAny_pure (wpAny_pure ⟨rfl,rfl,fun u hu => hall u (List.mem_cons_of_mem _ hu)⟩)
 ·rintro ⟨r1,r2⟩ s' ⟨hr,rfl,_⟩
  subst hr
  exact wpAny_pure q
theorem not_seen {l : List Value} {Q : Bool → Shared → Prop} (K : Key C s.heap k a) (hl : ∀ v ∈ l,∃ k' b,v = .ref b ∧ Key C s.heap k' b) (q : Q false s) : wpAny C.M A (searchCouldBeSeen (.ref a) l) Q E s := by
 unfold searchCouldBeSeen
 refine wpAny_bind ?_
 refine wpAny_forIn_list _ (fun rest r s' => r.1 = none ∧ s' = s ∧ ∀ v ∈ rest,∃ k' b,v = .ref b ∧ Key C s.heap k' b) _ ?_ ?_ _ _ ⟨rfl,rfl,hl⟩
 ·rintro v rest r s' ⟨hr,rfl,hall⟩
  obtain ⟨k',b,rfl,K'⟩ := hall v List.mem_cons_self
  have nx : ∀ v ∈ rest,∃ k' b,v = .ref b ∧ Key C s'.heap k' b := fun u hu => hall u (List.mem_cons_of_mem _ hu)
  dsimp only
  split
  ·exact wpAny_pure ⟨rfl,rfl,nx⟩
  ·refine wpAny_bind (wpAny_eqIsQuiet_tuple K ?_)
   refine wpAny_bind (wpAny_eqIsQuiet_tuple K' ?_)
   refine wpAny_bind (no_class K ?_)
   refine wpAny_bind (no_class K' ?_)
   exact wpAny_pure ⟨rfl,rfl,nx⟩
 ·rintro ⟨r1,r2⟩ s' ⟨hr,rfl,_⟩
  subst hr
  exact wpAny_pure q
theorem led_skip {α : Type} {c : Bool} {l : List Value} {Y Z : Sem α} {Q : α → Shared → Prop} (K : Key C s.heap k a) (hl : ∀ v ∈ l,∃ k' b,v = .ref b ∧ Key C s.heap k' b) (h : wpAny C.M A Y Q E s) : wpAny C.M A (if c = true then (searchCouldBeSeen (.ref a) l >>= fun b => if b = true then Z else Y) else Y) Q E s := by
 by_cases hc : c = true
 ·rw [if_pos hc]
  exact wpAny_bind (not_seen K hl (by rw [if_neg Bool.false_ne_true]; exact h))
 ·rw [if_neg hc]; exact h
theorem TI.live' {e : Nat × Int × Value} {i : Nat} (T : TI M t L) (hi : L[i]? = some e) : t.slot e.1 = .live i := by
 obtain ⟨h,rfl⟩ := List.getElem?_eq_some_iff.mp hi
 have e1 : L = L.take i ++ L[i] :: L.drop (i + 1) := by rw [List.getElem_cons_drop]; exact (List.take_append_drop i L).symm
 have := (e1 ▸ T : TI M t (L.take i ++ L[i] :: L.drop (i + 1))).live
 rw [List.length_take,Nat.min_eq_left (Nat.le_of_lt h)] at this
 exact this
theorem TI.fits {es : Array (Int × Value)} (T : TI M t L) (he : es = (L.map (·.2)).toArray) (hl : L.length ≤ M) : t.fits es.size = true := by
 have e1 : t.place.size = L.length := by rw [T.pl,List.size_toArray,List.length_map]
 have e2 : es.size = L.length := by rw [he,List.size_toArray,List.length_map]
 have e3 : t.fill = L.length := by unfold SetTable.fill; rw [e1,T.dm]; rfl
 unfold SetTable.fits
 rw [e1,e2,e3,T.mask,beq_self_eq_true,decide_eq_true hl]; rfl
structure Free (M : Nat) (L : List (Nat × Int × Value)) (h : Heap) (C : Cx) (k : List Int) (d : Nat) : Prop where
 nj : sq M (kh C k) d ∉ L.map (·.1)
 pr : ∀ i,i < d → ∃ e ∈ L,e.1 = sq M (kh C k) i ∧ ∀ b,e.2.2 = .ref b → ¬ Key C h k b
theorem srch_set {o : Obj} {es : Array (Int × Value)} {ep : Nat} {adding : Bool} {Q : SetFound → Shared → Prop} (hu : A.units < cLine) (ho : s.heap.get? b = some o) (hd : o.data = .set es ep t) (he : es = (L.map (·.2)).toArray) (T : TI M t L) (hM : allGo M = true) (hl : L.length ≤ M) (odd : t.gaveWay = false) (H : Ents C s.heap L) (K : Key C s.heap k a)
  (hf : ∀ d,Free M L s.heap C k d → Q (.free (sq M (kh C k) d) false) s) (ht : ∀ e ∈ L,∀ b,e.2 = (kh C k,.ref b) → Key C s.heap k b → ∀ r : Option Nat,(adding = false → r.isSome = true) → Q (.there r) s) :
  ∀ (n d fuel : Nat) (stand : Option Probe),stand.getD (t.probeStart (kh C k)) = advN M d (start M (kh C k)) → n < 10 * turns M → n < fuel → sq M (kh C k) (d + n) ∉ L.map (·.1) → (∀ i,i < d → ∃ e ∈ L,e.1 = sq M (kh C k) i ∧ ∀ b,e.2.2 = .ref b → ¬ Key C s.heap k b) →
  wpAny C.M A (setSearchFrom b (.ref a) (kh C k) adding fuel stand) Q E s := by
 have hfit := T.fits he hl
 have at' : ∀ {i : Nat} {e : Nat × Int × Value},L[i]? = some e → es[i]? = some e.2 := fun {i e} hi => by rw [he,List.getElem?_toArray,List.getElem?_map,hi]; rfl
 have mem : ∀ {i : Nat} {e : Nat × Int × Value},L[i]? = some e → e.1 ∈ L.map (·.1) := fun hi => List.mem_map.mpr ⟨_,List.mem_of_getElem? hi,rfl⟩
 intro n
 induction n using Nat.strongRecOn with
 | _ n ih =>
  intro d fuel stand hs hn hfu hj hpr
  obtain ⟨f,rfl⟩ : ∃ f,fuel = f + 1 := Nat.exists_eq_succ_of_ne_zero (Nat.ne_of_gt (Nat.zero_lt_of_lt hfu))
  have nx : ∀ m,advN M m (advN M d (start M (kh C k))) = advN M (d + m) (start M (kh C k)) := fun m => (advN_add d m _).symm
  obtain ⟨m,hm,hpre,hmet⟩ := go_met T (hashAt := fun i => (es[i]?.map (·.1)).getD 0) (h := kh C k) (fun i e hi => by show (es[i]?.map (·.1)).getD 0 = _; rw [at' hi]; rfl) (10 * turns M) (advN M d (start M (kh C k))) n (start_ok.advN d).d hn (by rw [nx]; exact hj)
  have pre : ∀ i,i < d + m → ∃ e ∈ L,e.1 = sq M (kh C k) i ∧ ∀ b,e.2.2 = .ref b → ¬ Key C s.heap k b := fun i hi => by
   rcases Nat.lt_or_ge i d with q | q
   ·exact hpr i q
   ·obtain ⟨e,h1,h2,h3⟩ := hpre (i - d) (Nat.sub_lt_left_of_lt_add q hi)
    rw [nx,Nat.add_sub_of_le q] at h2
    refine ⟨e,h1,h2,fun b hb K' => h3 ?_⟩
    obtain ⟨k',b',e1,K''⟩ := H e h1
    rw [e1] at hb ⊢
    cases hb
    rw [K''.inj K']
  refine wpAny_bind (wpAny_setState_of ho hd hfit ?_)
  dsimp only
  rw [odd,if_neg Bool.false_ne_true,hs]
  have hR : t.probe (fun i => (es[i]?.map (·.1)).getD 0) (kh C k) (advN M d (start M (kh C k))) = probe.go t (fun i => (es[i]?.map (·.1)).getD 0) (kh C k) (10 * turns M) (advN M d (start M (kh C k))) := by unfold SetTable.probe; rw [T.mask]
  rw [← hR] at hmet
  show wpAny _ _ (match t.probe (fun i => (es[i]?.map (·.1)).getD 0) (kh C k) (advN M d (start M (kh C k))) with | some met => _ | _ => _) _ _ _
  generalize t.probe (fun i => (es[i]?.map (·.1)).getD 0) (kh C k) (advN M d (start M (kh C k))) = R at hmet
  cases hmet with
  | empty hq =>
   rw [nx] at hq
   exact wpAny_pure (nx m ▸ hf (d + m) ⟨hq,pre⟩)
  | cand i e hi hq hh =>
   rw [nx] at hq
   have hem := List.mem_of_getElem? hi
   refine byG fun G9 k9 => ?_
   obtain ⟨k',b',e1,K'⟩ := H e hem
   refine k9 ?_
   clear k9 G9
   have hmn : m < n := Nat.lt_of_le_of_ne hm fun q => hj (by rw [← q,← show e.1 = sq M (kh C k) (d + m) from hq]; exact mem hi)
   have hes : es[i]? = some (kh C k',.ref b') := e1 ▸ at' hi
   dsimp only
   refine led_skip K (fun v hv => ?_) ?_
   ·obtain ⟨x,hx,rfl⟩ := List.mem_map.mp hv
    have hx := (Array.mem_filter.mp (Array.mem_toList_iff.mp hx)).1
    rw [he,List.mem_toArray] at hx
    obtain ⟨e',he',rfl⟩ := List.mem_map.mp hx
    obtain ⟨k2,b2,e2,K2⟩ := H e' he'
    exact ⟨k2,b2,by rw [e2],K2⟩
   ·rw [hes]
    refine wpAny_bind (wpAny_holding (wpAny_eqBool_tuple hu K' K (wpAny_bind (wpAny_setState_of ho hd hfit ?_))))
    dsimp only
    have hsl : t.slot (advN M m (advN M d (start M (kh C k)))).j = .live i := by rw [nx]; exact hq ▸ T.live' hi
    rw [show t.sameMemory t.moves t.mask = some true from if_pos (beq_self_eq_true _)]
    dsimp only
    rw [if_pos rfl,hsl]
    dsimp only
    rw [hes]
    by_cases hkk : k' = k
    ·rw [decide_eq_true hkk,Bool.and_true]
     subst hkk
     by_cases had : adding = true
     ·rw [if_pos had]
      exact wpAny_pure (ht e hem b' e1 K' none fun q => by rw [had] at q; cases q)
     ·rw [if_neg had]
      refine wpAny_bind (wpAny_isSame_ref_self ?_)
      exact wpAny_bind (wpAny_pure (wpAny_pure (ht e hem b' e1 K' (some i) fun _ => rfl)))
    ·rw [decide_eq_false hkk,Bool.and_false,if_neg Bool.false_ne_true]
     refine wpAny_bind (wpAny_isSame_ref_self (wpAny_bind (wpAny_pure ?_)))
     refine ih (n - (m + 1)) (Nat.sub_lt_self (Nat.succ_pos m) hmn) (d + m + 1) f _ (by show advN M (m + 1) _ = _; rw [nx]; rfl) (Nat.lt_of_le_of_lt (Nat.sub_le _ _) hn) (Nat.lt_of_le_of_lt (Nat.sub_le_sub_left (Nat.succ_le_succ (Nat.zero_le m)) n) (Nat.sub_lt_right_of_lt_add (Nat.succ_le_of_lt (Nat.lt_of_le_of_lt (Nat.zero_le m) hmn)) hfu)) ?_ fun i' hi' => ?_
     ·rw [Nat.add_assoc,Nat.add_assoc,← Nat.add_assoc m 1,Nat.add_sub_of_le hmn]; exact hj
     ·rcases Nat.lt_or_ge i' (d + m) with q | q
      ·exact pre i' q
      ·obtain rfl : i' = d + m := Nat.le_antisymm (Nat.le_of_lt_succ hi') q
       exact ⟨e,hem,hq,fun b2 hb K2 => hkk (by rw [e1] at hb; cases hb; exact K'.inj K2)⟩
end
end
section
section
open SetTable
variable {M : Nat}
structure RunS (M : Nat) (p : Probe) : Prop where
 j : p.j = p.i
 m : p.more = runEnd M p.i - p.i
theorem RunS.lp {p : Probe} : RunS M (lpS M p) := ⟨rfl,rfl⟩
theorem start_run {h : Int} : RunS M (start M h) := ⟨rfl,rfl⟩
theorem lpN_succ {p : Probe} (n : Nat) : lpN M (n + 1) p = lpN M n (lpS M p) := by rw [Nat.add_comm,lpN_add]; rfl
noncomputable def ownN (o : Array (Option Nat)) (j : Nat) : Bool := (o.getD j (some 0)).isNone
theorem free_ok {o : Array (Option Nat)} : ∀ (f c : Nat) (p : Probe),RunS M p → c < f → ownN o (lpN M c p).i = true → ∃ kk,layClean.free M o f p.i p.perturb = some (advN M kk p).j ∧ ownN o (advN M kk p).j = true ∧ ∀ i,i < kk → ownN o (advN M i p).j = false
 | 0,c,p,hr,hc,_ => absurd hc (Nat.not_lt_zero c)
 | f + 1,c,p,hr,hc,ho => by
  have run : ∀ k,k ≤ p.more → (advN M k p).j = p.i + k := fun k hk => by rw [adv_run k p hk]; exact congrArg (· + k) hr.j
  have hle : p.i ≤ runEnd M p.i := by unfold runEnd; split; exact Nat.le_add_right _ _; exact Nat.le_refl _
  unfold layClean.free
  cases e : (List.range (runEnd M p.i + 1 - p.i)).find? fun k => (o.getD (p.i + k) (some 0)).isNone with
  | some k =>
   obtain ⟨h1,as,bs,h2,h3⟩ := List.find?_eq_some_iff_append.mp e
   have hk : k < runEnd M p.i + 1 - p.i := List.mem_range.mp (by rw [h2]; exact List.mem_append_right _ List.mem_cons_self)
   have hk' : k ≤ p.more := by rw [hr.m]; rw [Nat.succ_sub hle] at hk; exact Nat.le_of_lt_succ hk
   refine ⟨k,by rw [run k hk'],by rw [run k hk']; exact h1,fun i hi => ?_⟩
   rw [run i (Nat.le_trans (Nat.le_of_lt hi) hk')]
   have hm : i ∈ as := by
    have hl : as.length = k := by
     have := congrArg (fun l => l[as.length]?) h2
     rw [List.getElem?_append_right (Nat.le_refl _),Nat.sub_self] at this
     have := List.getElem?_eq_some_iff.mp this
     obtain ⟨h,e⟩ := this
     rw [List.getElem_range] at e
     exact e
    have := congrArg (fun l => l[i]?) h2
    rw [List.getElem?_append_left (hl ▸ hi),List.getElem?_range (Nat.lt_trans hi hk)] at this
    exact List.mem_of_getElem? this.symm
   have := h3 i hm
   rw [Bool.not_eq_true'] at this
   exact this
  | none =>
   have all := List.find?_eq_none.mp e
   have ne : ∀ k,k ≤ p.more → ownN o (advN M k p).j = false := fun k hk => by
    rw [run k hk]
    exact Bool.not_eq_true _ ▸ all k (List.mem_range.mpr (by rw [hr.m] at hk; rw [Nat.succ_sub hle]; exact Nat.lt_succ_of_le hk))
   cases c with
   | zero =>
    have := ne 0 (Nat.zero_le _)
    rw [show (advN M 0 p).j = p.i from hr.j] at this
    rw [show ownN o p.i = true from ho] at this
    cases this
   | succ c =>
    refine byG fun G9 k9 => ?_
    obtain ⟨kk,e1,e2,e3⟩ := free_ok f c (lpS M p) RunS.lp (Nat.lt_of_succ_lt_succ hc) (lpN_succ c ▸ ho)
    refine k9 ?_
    clear k9 G9
    have ea : ∀ k,advN M (p.more + 1 + k) p = advN M k (lpS M p) := fun k => by rw [advN_add,adv_leap]
    refine ⟨p.more + 1 + kk,by rw [ea]; exact e1,by rw [ea]; exact e2,fun i hi => ?_⟩
    rcases Nat.lt_or_ge p.more i with q | q
    ·obtain ⟨d,rfl⟩ := Nat.le.dest (Nat.succ_le_of_lt q)
     rw [ea]; exact e3 d (Nat.lt_of_add_lt_add_left hi)
    ·exact ne i q
theorem comes_run (hM : allGo M = true) {p : Probe} (h : PrOk M p) {j : Nat} (hj : j ≤ M) : ∃ c,c < turns M ∧ (lpN M c p).i = j := by
 have h0 : (lpN M 13 p).perturb = 0 := by
  rw [lpN_pert]
  exact Nat.div_eq_of_lt (Nat.lt_of_lt_of_le h.q (by decide))
 obtain ⟨n,hn,e⟩ := goes_all hM (lpN_i (p := p) h.i 13) hj
 exact ⟨13 + n,by show 13 + n < M + 15; rw [Nat.add_comm]; exact Nat.add_lt_add_of_le_of_lt hn (by decide),by rw [lpN_add,lpN_goes h0,e]⟩
structure Own (M : Nat) (hs : List Int) (o : Array (Option Nat)) (P : List Nat) : Prop where
 sz : o.size = M + 1
 ln : P.length = hs.length
 le : ∀ j ∈ P,j ≤ M
 own : ∀ j,j ≤ M → ∃ v,o[j]? = some v ∧ ∀ c,v = some c ↔ P[c]? = some j
 nd : P.Nodup
 path : ∀ (c : Nat) h,hs[c]? = some h → ∃ kk,P[c]? = some (sq M h kk) ∧ ∀ i,i < kk → sq M h i ∈ P
variable {hs : List Int} {o : Array (Option Nat)} {P : List Nat}
theorem Own.nil : Own M [] (Array.replicate (M + 1) none) [] :=
 ⟨Array.size_replicate,rfl,fun _ h => (List.not_mem_nil h).elim,fun j hj => ⟨none,by rw [Array.getElem?_replicate,if_pos (Nat.lt_succ_of_le hj)],fun c => ⟨fun q => none_some q,fun q => none_some q⟩⟩,.nil,fun c h q => none_some q⟩
theorem Own.free (O : Own M hs o P) {j : Nat} : ownN o j = true ↔ j ≤ M ∧ j ∉ P := by
 unfold ownN
 rw [Array.getD_eq_getD_getElem?]
 rcases Nat.lt_or_ge M j with q | q
 ·rw [Array.getElem?_eq_none (by rw [O.sz]; exact q)]
  exact ⟨fun h => no_tf h,fun h => absurd h.1 (Nat.not_le.mpr q)⟩
 ·obtain ⟨v,e,h⟩ := O.own j q
  rw [e]
  cases v with
  | none => exact ⟨fun _ => ⟨q,fun m => let ⟨c,hc⟩ := List.getElem?_of_mem m; none_some ((h c).mpr hc)⟩,fun _ => rfl⟩
  | some c => exact ⟨fun h => no_tf h,fun n => absurd (List.mem_of_getElem? ((h c).mp rfl)) n.2⟩
theorem Own.step (O : Own M hs o P) (hM : allGo M = true) (hl : P.length ≤ M) (h : Int) : ∃ j,layClean.free M o (turns M) (bits h % (M + 1)) (bits h) = some j ∧ Own M (hs ++ [h]) (o.setIfInBounds j (some hs.length)) (P ++ [j]) := by
 refine byG fun G9 k9 => ?_
 obtain ⟨j0,h1,h2⟩ : ∃ j,j ≤ M ∧ j ∉ P := Classical.byContradiction fun q => by
  have := all_len (M + 1) P fun j hj => Classical.byContradiction fun r => q ⟨j,Nat.le_of_lt_succ hj,r⟩
  exact absurd hl (Nat.not_le.mpr this)
 obtain ⟨c,hc,hj0⟩ := comes_run hM (start_ok (h := h)) h1
 obtain ⟨kk,e1,e2,e3⟩ := free_ok (turns M) c (start M h) start_run hc (by rw [hj0]; exact O.free.mpr ⟨h1,h2⟩)
 have e2 : ownN o (sq M h kk) = true := e2
 obtain ⟨hj,hn⟩ := O.free.mp e2
 refine k9 ?_
 clear k9 G9
 refine ⟨sq M h kk,e1,?_⟩
 generalize hjj : sq M h kk = j at hj hn
 have old : ∀ {c i},P[c]? = some i → (P ++ [j])[c]? = some i := fun q => by rw [List.getElem?_append_left (List.getElem?_eq_some_iff.mp q).1]; exact q
 have last : (P ++ [j])[P.length]? = some j := by rw [List.getElem?_append_right (Nat.le_refl _),Nat.sub_self]; rfl
 have inv : ∀ {c i},(P ++ [j])[c]? = some i → P[c]? = some i ∨ (c = P.length ∧ i = j) := fun {c i} q => by
  rcases Nat.lt_or_ge c P.length with r | r
  ·rw [List.getElem?_append_left r] at q; exact .inl q
  ·rw [List.getElem?_append_right r] at q
   have := (List.getElem?_eq_some_iff.mp q).1
   have hc : c = P.length := Nat.le_antisymm (Nat.le_of_sub_eq_zero (Nat.lt_one_iff.mp this)) r
   rw [hc,Nat.sub_self] at q
   exact .inr ⟨hc,(Option.some.inj q).symm⟩
 refine ⟨by rw [Array.size_setIfInBounds,O.sz],by rw [List.length_append,List.length_append,O.ln]; rfl,fun i hi => ?_,fun i hi => ?_,?_,fun c h' hc => ?_⟩
 ·rcases List.mem_append.mp hi with q | q
  ·exact O.le i q
  ·rw [List.mem_singleton.mp q]; exact hj
 ·by_cases hij : i = j
  ·subst hij
   refine ⟨some hs.length,by rw [Array.getElem?_setIfInBounds_self_of_lt (by rw [O.sz]; exact Nat.lt_succ_of_le hj)],fun c => ⟨fun q => ?_,fun q => ?_⟩⟩
   ·rw [← Option.some.inj q,← O.ln]; exact last
   ·rcases inv q with r | r
    ·exact absurd (List.mem_of_getElem? r) hn
    ·rw [r.1,O.ln]
  ·obtain ⟨v,e,hv⟩ := O.own i hi
   refine ⟨v,by rw [Array.getElem?_setIfInBounds_ne (Ne.symm hij)]; exact e,fun c => (hv c).trans ⟨old,fun q => (inv q).elim id fun r => absurd r.2 hij⟩⟩
 ·exact List.nodup_append.mpr ⟨O.nd,List.nodup_cons.mpr ⟨List.not_mem_nil,.nil⟩,fun a ha b hb q => hn (by rw [← List.mem_singleton.mp hb,← q]; exact ha)⟩
 ·rcases Nat.lt_or_ge c hs.length with r | r
  ·rw [List.getElem?_append_left r] at hc
   obtain ⟨k2,q1,q2⟩ := O.path c h' hc
   exact ⟨k2,old q1,fun i hi => List.mem_append_left _ (q2 i hi)⟩
  ·rw [List.getElem?_append_right r] at hc
   have := (List.getElem?_eq_some_iff.mp hc).1
   have hcl : c = hs.length := Nat.le_antisymm (Nat.le_of_sub_eq_zero (Nat.lt_one_iff.mp this)) r
   rw [hcl,Nat.sub_self] at hc
   rw [← show h = h' from Option.some.inj hc]
   refine ⟨kk,by rw [hcl,← O.ln,hjj]; exact last,fun i hi => List.mem_append_left _ ?_⟩
   have this : ownN o (sq M h i) = false := e3 i hi
   exact Classical.byContradiction fun q => no_tf (this.symm.trans (O.free.mpr ⟨Nat.le_trans (Nat.le_add_right _ _) (start_ok.advN i).j,q⟩))
theorem Own.fold (hM : allGo M = true) : ∀ (hs1 hs : List Int) (o : Array (Option Nat)) (P : List Nat),Own M hs o P → hs.length + hs1.length ≤ M → ∃ o' P',hs1.foldl (fun acc h => do
   let (owner,k) ← acc
   let j ← layClean.free M owner (turns M) (bits h % (M + 1)) (bits h)
   pure (owner.setIfInBounds j (some k),k + 1)) (some (o,hs.length)) = some (o',hs.length + hs1.length) ∧ Own M (hs ++ hs1) o' P'
 | [],hs,o,P,O,_ => ⟨o,P,rfl,by rw [List.append_nil]; exact O⟩
 | h :: hs1,hs,o,P,O,hl => by
  rw [List.length_cons] at hl
  refine byG fun G9 k9 => ?_
  obtain ⟨j,e,O'⟩ := O.step hM (by rw [O.ln]; exact Nat.le_trans (Nat.le_add_right _ _) hl) h
  have hl2 : (hs ++ [h]).length = hs.length + 1 := List.length_append ..
  obtain ⟨o',P',e2,O2⟩ := Own.fold hM hs1 (hs ++ [h]) _ _ O' (by rw [hl2,Nat.add_assoc,Nat.add_comm 1]; exact hl)
  refine k9 ?_
  clear k9 G9
  refine ⟨o',P',?_,by rw [List.append_assoc] at O2; exact O2⟩
  rw [List.foldl_cons]
  show List.foldl _ ((layClean.free M o (turns M) (bits h % (M + 1)) (bits h)).bind fun j => some (o.setIfInBounds j (some hs.length),hs.length + 1)) hs1 = _
  rw [e,List.length_cons,← Nat.add_assoc,Nat.add_right_comm]
  rw [hl2] at e2
  exact e2
theorem lay_ok (hM : allGo M = true) {hs : List Int} (hl : hs.length ≤ M) : ∃ o P,layClean M hs.toArray = some o ∧ Own M hs o P := by
 obtain ⟨o,P,e,O⟩ := Own.fold hM hs [] _ [] .nil (by rw [List.length_nil,Nat.zero_add]; exact hl)
 refine ⟨o,P,?_,O⟩
 unfold layClean
 rw [List.foldl_toArray]
 exact congrArg (Option.map (·.1)) e
theorem fm_range {γ : Type} : ∀ l : List γ,(List.range l.length).filterMap (fun c => l[c]?) = l
 | [] => rfl
 | a :: l => by
  rw [List.length_cons,List.range_succ_eq_map,List.filterMap_cons_some (f := fun c => (a :: l)[c]?) (b := a) rfl,List.filterMap_map]
  exact congrArg (a :: ·) (fm_range l)
theorem fm_fst {β : Type} {L : List (Nat × Int × β)} : ∀ {l : List (Nat × Nat)},(∀ q ∈ l,∃ e,L[q.2]? = some e) → (l.filterMap fun q => L[q.2]?.map fun e => (q.1,e.2)).map (·.1) = l.map (·.1)
 | [],_ => rfl
 | q :: l,h => by
  obtain ⟨e,he⟩ := h q List.mem_cons_self
  rw [List.filterMap_cons_some (b := (q.1,e.2)) (by rw [he]; rfl),List.map_cons,List.map_cons,fm_fst fun q hq => h q (List.mem_cons_of_mem _ hq)]
theorem relay_ok {β : Type} (hM : allGo M = true) {L : List (Nat × Int × β)} {t : SetTable} {m w : Nat} (hw : sizeAbove w - 1 = M) (hl : L.length ≤ M) : ∃ t' order L',t.relaid (L.map (·.2.1)).toArray w = some (t',order) ∧ (∀ es : Array (Int × β),es = (L.map (·.2)).toArray → order.filterMap (es[·]?) = (L'.map (·.2)).toArray) ∧ TI M t' L' ∧ (L'.map (·.2)).Perm (L.map (·.2)) ∧ t'.led = t.led := by
 refine byG fun G9 k9 => ?_
 obtain ⟨o,P,e,O⟩ := lay_ok hM (hs := L.map (·.2.1)) (by rw [List.length_map]; exact hl)
 have ln : P.length = L.length := O.ln.trans (List.length_map ..)
 obtain ⟨live,hlv⟩ : ∃ live,live = (List.range (M + 1)).filterMap fun j => (o.getD j none).map (j,·) := ⟨_,rfl⟩
 refine k9 ?_
 clear k9 G9
 have mem : ∀ {j c : Nat},(j,c) ∈ live ↔ j ≤ M ∧ P[c]? = some j := fun {j c} => by
  rw [hlv,List.mem_filterMap]
  refine ⟨fun ⟨i,hi,q⟩ => ?_,fun ⟨h1,h2⟩ => ⟨j,List.mem_range.mpr (Nat.lt_succ_of_le h1),?_⟩⟩
  ·have hi := Nat.le_of_lt_succ (List.mem_range.mp hi)
   obtain ⟨v,e,hv⟩ := O.own i hi
   rw [Array.getD_eq_getD_getElem?,e] at q
   obtain ⟨c',q1,q2⟩ := Option.map_eq_some_iff.mp q
   cases q2
   exact ⟨hi,(hv c).mp q1⟩
  ·obtain ⟨v,e,hv⟩ := O.own j h1
   rw [Array.getD_eq_getD_getElem?,e]
   exact congrArg (Option.map (j,·)) ((hv c).mpr h2)
 have some' : ∀ q ∈ live,∃ e,L[q.2]? = some e := fun q hq => ⟨_,List.getElem?_eq_getElem (ln ▸ (List.getElem?_eq_some_iff.mp (mem.mp hq).2).1)⟩
 have inc : live.Pairwise fun q q' => q.1 < q'.1 := by
  rw [hlv,List.pairwise_filterMap]
  refine List.pairwise_lt_range.imp fun {i i'} hlt b hb b' hb' => ?_
  obtain ⟨_,_,rfl⟩ := Option.map_eq_some_iff.mp hb
  obtain ⟨_,_,rfl⟩ := Option.map_eq_some_iff.mp hb'
  exact hlt
 have op : (live.map (·.2)).Perm (List.range L.length) := by
  refine (List.perm_ext_iff_of_nodup ?_ List.nodup_range).mpr fun c => ?_
  ·refine List.pairwise_map.mpr (inc.imp_of_mem fun {q q'} h1 h2 h x => ?_)
   have a1 := (mem.mp h1).2
   rw [x,(mem.mp h2).2] at a1
   exact absurd h (by rw [Option.some.inj a1]; exact Nat.lt_irrefl _)
  ·rw [List.mem_range,List.mem_map]
   refine ⟨fun ⟨q,hq,e⟩ => e ▸ ln ▸ (List.getElem?_eq_some_iff.mp (mem.mp hq).2).1,fun h => ?_⟩
   have hc : P[c]? = some P[c] := List.getElem?_eq_getElem (ln.symm ▸ h)
   exact ⟨(P[c],c),mem.mpr ⟨O.le _ (List.mem_of_getElem? hc),hc⟩,rfl⟩
 have hm : (live.filterMap fun q => L[q.2]?.map fun e => (q.1,e.2)).map (·.2) = (live.map (·.2)).filterMap fun c => (L.map (·.2))[c]? := by
  rw [List.map_filterMap,List.filterMap_map]
  congr 1
  funext q
  rw [Option.map_map]
  show _ = (L.map (·.2))[q.2]?
  rw [List.getElem?_map]
  rfl
 have fst := fm_fst some'
 have mf : ∀ {j},j ∈ live.map (·.1) ↔ j ∈ P := fun {j} => by
  rw [List.mem_map]
  refine ⟨fun ⟨q,hq,e⟩ => e ▸ List.mem_of_getElem? (mem.mp hq).2,fun h => ?_⟩
  obtain ⟨c,hc⟩ := List.getElem?_of_mem h
  exact ⟨(j,c),mem.mpr ⟨O.le _ h,hc⟩,rfl⟩
 refine ⟨⟨M,(live.map (·.1)).toArray,#[],t.finger,t.led,t.movedTo M,t.plain⟩,(live.map (·.2)).toArray,live.filterMap fun q => L[q.2]?.map fun e => (q.1,e.2),?_,fun es hes => ?_,⟨rfl,rfl,by rw [fst],?_,fun e he => ?_,fun e he => ?_⟩,?_,rfl⟩
 ·unfold relaid laid
  rw [hw,e,hlv]
  rfl
 ·rw [hm,hes]
  apply Array.toList_inj.mp
  rw [Array.toList_filterMap]
  refine congrArg (fun f => List.filterMap f (live.map (·.2))) (funext fun c => ?_)
  rw [List.getElem?_toArray]
 ·rw [fst]; exact List.pairwise_map.mpr inc
 ·have : e.1 ∈ live.map (·.1) := fst ▸ List.mem_map.mpr ⟨e,he,rfl⟩
  exact O.le _ (mf.mp this)
 ·obtain ⟨q,hq,hqe⟩ := List.mem_filterMap.mp he
  obtain ⟨e0,h0,rfl⟩ := Option.map_eq_some_iff.mp hqe
  obtain ⟨kk,h1,h2⟩ := O.path q.2 e0.2.1 (by rw [List.getElem?_map,h0]; rfl)
  rw [(mem.mp hq).2] at h1
  refine ⟨kk,(Option.some.inj h1).symm,fun i hi => ?_⟩
  rw [fst]; exact mf.mpr (h2 i hi)
 ·rw [hm]
  have := op.filterMap fun c => (L.map (·.2))[c]?
  have e2 := fm_range (L.map (·.2))
  rw [List.length_map] at e2
  rw [e2] at this
  exact this
end
end
section
section
open SetTable
variable {C : Cx} {A : Around} {E : Value → Shared → Prop} {s : Shared} {l : List (List Int)} {n : Nat} {o : Obj} {k : List Int} {a b : Addr}
theorem TSet.search {adding : Bool} {Q : SetFound → Shared → Prop} (x : TSet C s.heap l n o) (hu : A.units < cLine) (ho : s.heap.get? b = some o) (K : Key C s.heap k a)
  (ht : k ∈ l → ∀ r : Option Nat,(adding = false → r.isSome = true) → Q (.there r) s)
  (hf : k ∉ l → ∀ M t L es ep d,L.length = n → Rmo M n → o.ExactSet → o.data = .set es ep t → es = (L.map (·.2)).toArray → TI M t L → (∀ e ∈ L,∃ k a,e.2 = (kh C k,.ref a) ∧ Key C s.heap k a ∧ k ∈ l) → (∀ k ∈ l,∃ e ∈ L,∃ a,e.2 = (kh C k,.ref a) ∧ Key C s.heap k a) → Free M L s.heap C k d → Q (.free (sq M (kh C k) d) false) s) : wpAny C.M A (setSearch b (.ref a) (kh C k) adding) Q E s := by
 obtain ⟨M,t,L,es,ep,ln,rm,x,d,e,T,hk,hm⟩ := x
 have hl : L.length ≤ M := ln ▸ rm.le
 obtain ⟨m,hm1,hm2⟩ := T.room rm.go hl (p := start M (kh C k)) start_ok
 have ps : t.probeStart (kh C k) = start M (kh C k) := by rw [← T.mask]; rfl
 have big : 10 * turns M < 100000 := by rcases rm with e | e <;> rw [e.1] <;> decide
 unfold setSearch
 refine srch_set hu ho d e T rm.go hl (rm.odd T.mask) (fun e he => let ⟨k,a,e1,e2,_⟩ := hk e he; ⟨k,a,e1,e2⟩) K (fun dd F => ?_) (fun e he b' e1 K' r hr => ?_) m 0 100000 none ps hm1 (Nat.lt_trans hm1 big) (by rw [Nat.zero_add]; exact hm2) fun i hi => absurd hi (Nat.not_lt_zero i)
 ·refine hf (fun hkl => ?_) M t L es ep dd ln rm x d e T hk hm F
  obtain ⟨e',he',a',e1,K'⟩ := hm k hkl
  obtain ⟨kk,h1,h2⟩ := T.path e' he'
  rw [e1] at h1 h2
  have hlt : kk < dd := Nat.lt_of_not_le fun q => by
   rcases Nat.lt_or_ge dd kk with r | r
   ·exact F.nj (h2 dd r)
   ·rw [Nat.le_antisymm r q] at h1
    exact F.nj (h1 ▸ List.mem_map.mpr ⟨e',he',rfl⟩)
  obtain ⟨e2,he2,p1,p2⟩ := F.pr kk hlt
  have h1 : sq M (kh C k) kk = e'.1 := h1
  rw [h1] at p1
  have : e2 = e' := by
   obtain ⟨i,hi⟩ := List.getElem?_of_mem he2
   obtain ⟨j,hj⟩ := List.getElem?_of_mem he'
   have a1 := T.live' hi
   have a2 := T.live' hj
   rw [p1,a2] at a1
   cases a1
   rw [hj] at hi
   exact (Option.some.inj hi).symm
  subst this
  exact p2 a' (by rw [e1]) K'
 ·obtain ⟨k2,a2,q1,q2,q3⟩ := hk e he
  rw [e1] at q1
  have q1 : b' = a2 := Value.ref.inj (Prod.mk.inj q1).2
  subst q1
  exact ht (K'.inj q2 ▸ q3) r hr
theorem find_set {Q : Option Nat → Shared → Prop} (x : TSet C s.heap l n o) (hu : A.units < cLine) (ho : s.heap.get? b = some o) (K : Key C s.heap k a) (h : ∀ r : Option Nat,r.isSome = decide (k ∈ l) → Q r s) : wpAny C.M A (setFind b (.ref a) (kh C k)) Q E s := by
 have ⟨es,ep,t,hd,hf⟩ : ∃ es ep t,o.data = .set es ep t ∧ t.fits es.size = true := x.casesOn fun M t L es ep ln rm x d e T _ _ => ⟨es,ep,t,d,T.fits e (ln ▸ rm.le)⟩
 unfold setFind setFindIn
 refine wpAny_bind (wpAny_setState_of ho hd hf ?_)
 dsimp only
 rw [if_neg (show ¬ byScan (.ref a) es = true from Bool.false_ne_true)]
 refine wpAny_bind (x.search (adding := false) hu ho K (fun hk r hr => wpAny_pure (h r (by rw [hr rfl,decide_eq_true hk]))) fun hk _ _ _ _ _ _ _ _ _ _ _ _ _ _ _ => wpAny_pure (h none (by rw [decide_eq_false hk]; rfl)))
theorem by_val {Q : Bool → Shared → Prop} (K : Key C s.heap k a) (q : Q true s) : wpAny C.M A (hashByValue 8 (.ref a)) Q E s := by
 have hT := K.typeIs
 refine byG fun G9 k9 => ?_
 obtain ⟨o,items,n,ho,hc,hd,hi⟩ := K
 refine k9 ?_
 clear k9 G9
 unfold hashByValue
 refine wpAny_bind (wpAny_specialOf hT PySem.F.slot_tuple_hash.lookup ?_)
 show wpAny _ _ (seqItems? (.ref a) >>= _) _ _ _
 refine wpAny_bind (wpAny_seqItems ho hd (wpAny_bind ?_))
 show wpAny _ _ (forIn items _ _) _ _ _
 rw [← Array.forIn_toList]
 refine wpAny_forIn_list _ (fun rest r s' => r.1 = none ∧ s' = s ∧ ∃ ks,ItemsAre (iK C) ks rest) _ ?_ ?_ _ _ ⟨rfl,rfl,k,hi⟩
 ·rintro v rest r s' ⟨hr,rfl,ks,hall⟩
  cases hall with
  | cons h1 h2 =>
   obtain ⟨t,rfl⟩ := intKey_inv (C := C) h1
   refine wpAny_bind (m := hashByValue 7 _) (wpAny_pure (wpAny_pure ⟨rfl,rfl,_,h2⟩))
 ·rintro ⟨r1,r2⟩ s' ⟨hr,rfl,_⟩
  subst hr
  exact wpAny_pure q
end
end
section
section
open SetTable
variable {C : Cx} {A : Around} {E : Value → Shared → Prop} {s : Shared} {l : List (List Int)} {n : Nat} {o : Obj} {k : List Int} {a b : Addr}
theorem mem_perm {L L' : List (Nat × Int × Value)} (p : (L'.map (·.2)).Perm (L.map (·.2))) {e : Nat × Int × Value} (h : e ∈ L) : ∃ e' ∈ L',e'.2 = e.2 := List.mem_map.mp (p.mem_iff.mpr (List.mem_map.mpr ⟨e,h,rfl⟩))
theorem tup_but {h h' : Heap} (ho : h.get? b = some o) (hc : o.cls = .type "set") (hs : Heap.SameBut b h h') : TupKeep h h' := fun c o' vs n e ec _ => by
 rw [hs.2 c fun q => ?_]
 ·exact e
 ·rw [q,ho] at e
  rw [← Option.some.inj e,hc] at ec
  exact absurd (Value.type.inj ec) (by decide)
theorem TSet.cons {h : Heap} (x : TSet C h l n o) (hk : k ∈ l) : TSet C h (k :: l) n o := x.casesOn fun M tb L es ep ln rm x d e T hk' m => ⟨M,tb,L,es,ep,ln,rm,x,d,e,T,fun e he => let ⟨k,a,e1,e2,e3⟩ := hk' e he; ⟨k,a,e1,e2,List.mem_cons_of_mem _ e3⟩,fun k' hk' => m k' ((List.mem_cons.mp hk').elim (fun q => q ▸ hk) id)⟩
theorem by_if {α : Type} {c : Bool} {f : Bool → Sem α} {Q : α → Shared → Prop} (K : Key C s.heap k a) (q : wpAny C.M A (f true) Q E s) : wpAny C.M A (if c = true then (hashByValue 8 (.ref a) >>= f) else (pure true >>= f)) Q E s := by
 cases c
 ·exact wpAny_bind (wpAny_pure q)
 ·exact wpAny_bind (by_val K q)
theorem TI.fill {M : Nat} {t : SetTable} {L : List (Nat × Int × Value)} (T : TI M t L) : t.fill = L.length := by
 unfold SetTable.fill
 rw [T.pl,T.dm,List.size_toArray,List.length_map]; rfl
theorem relay_set {M M' w : Nat} {t : SetTable} {L : List (Nat × Int × Value)} {es : Array (Int × Value)} {ep : Nat} {Q : Unit → Shared → Prop} (ho : s.heap.get? b = some o) (hd : o.data = .set es ep t) (he : es = (L.map (·.2)).toArray) (T : TI M t L) (hl : L.length ≤ M) (hw : sizeAbove w - 1 = M') (hM : allGo M' = true) (hl' : L.length ≤ M') (hs : sizeAbove w ≤ 32) (hl2 : L.length ≤ 32)
  (h : ∀ t' L',TI M' t' L' → (L'.map (·.2)).Perm (L.map (·.2)) → Q () { s with heap := s.heap.update b (Obj.putSet (L'.map (·.2)).toArray t') }) : wpAny C.M A (setRelay b w) Q E s := by
 refine byG fun G9 k9 => ?_
 obtain ⟨t',order,L',r1,r2,r3,r4,r5⟩ := relay_ok hM (t := t) (m := 0) hw hl'
 refine k9 ?_
 clear k9 G9
 have r2 := r2 es he
 have e1 : (es.map (·.1)) = (L.map (·.2.1)).toArray := by rw [he,List.map_toArray,List.map_map]; rfl
 have sz : (order.filterMap (es[·]?)).size = es.size := by rw [r2,he,List.size_toArray,List.size_toArray,r4.length_eq]
 unfold setRelay
 refine wpAny_bind (wpAny_setState_of ho hd (T.fits he hl) ?_)
 dsimp only
 rw [if_neg (Nat.not_lt.mpr (Nat.le_trans hs (by decide)))]
 rw [e1,r1]
 refine wpAny_bind ?_
 show wpAny _ _ (if ((order.filterMap (es[·]?)).size != es.size) = true then _ else _) _ _ _
 rw [if_neg (by rw [sz,bne_self_eq_false]; exact Bool.false_ne_true),r2]
 refine wpAny_pure ?_
 refine wpAny_storeSet_of ho hd (h t' L' r3 r4) ?_
 rw [List.size_toArray,r4.length_eq,List.length_map]
 exact Nat.le_trans hl2 (by decide)
theorem TSet.add {Q : Bool → Shared → Prop} (x : TSet C s.heap l n o) (hn : n ≤ 17) (hu : A.units < cLine) (ho : s.heap.get? b = some o) (K : Key C s.heap k a)
  (h : ∀ h' o' n' r,n' ≤ n + 1 → Heap.SameBut b s.heap h' → h'.get? b = some o' → TSet C h' (k :: l) n' o' → Q r { s with heap := h' }) : wpAny C.M A (setAddHashed b (.ref a) (kh C k)) Q E s := by
 have ⟨es,ep,t,hd,hf⟩ : ∃ es ep t,o.data = .set es ep t ∧ t.fits es.size = true := x.casesOn fun M t L es ep ln rm x d e T _ _ => ⟨es,ep,t,d,T.fits e (ln ▸ rm.le)⟩
 unfold setAddHashed setAddHashedIn
 refine wpAny_holding (wpAny_bind (wpAny_setState_of ho hd hf ?_))
 dsimp only
 rw [if_neg (show ¬ byScan (.ref a) es = true from Bool.false_ne_true)]
 refine wpAny_bind (x.search (adding := true) hu ho K (fun hk r hr => wpAny_pure (h s.heap o n false (Nat.le_succ _) (Heap.SameBut.refl _ _) ho (x.cons hk))) ?_)
 clear hf
 intro hkl M t L es ep d ln rm ex dd ee T he hm F
 have hlM : L.length ≤ M := ln ▸ rm.le
 refine wpAny_bind (wpAny_setState_of ho dd (T.fits ee hlM) ?_)
 refine byG fun G9 k9 => ?_
 obtain ⟨L1,L2,eL,T',p1,p2,p3⟩ := T.put (h := kh C k) (x := Value.ref a) F.nj (Nat.le_trans (Nat.le_add_right _ _) (start_ok.advN d).j) ⟨d,rfl,fun i hi => let ⟨e,h1,h2,_⟩ := F.pr i hi; h2 ▸ List.mem_map.mpr ⟨e,h1,rfl⟩⟩
 obtain ⟨t1,p,hp⟩ : ∃ t1 p,t.put (sq M (kh C k) d) = (t1,p) := ⟨_,_,rfl⟩
 refine k9 ?_
 clear k9 G9
 rw [hp] at T' p1
 dsimp only at T' p1
 dsimp only
 rw [hp]
 dsimp only
 subst p1
 refine by_if K ?_
 rw [if_pos rfl,ins_es (j := sq M (kh C k) d) (h := kh C k) (x := Value.ref a) (by rw [← eL]; exact ee)]
 obtain ⟨L',hL'⟩ : ∃ L',L1 ++ (sq M (kh C k) d,kh C k,Value.ref a) :: L2 = L' := ⟨_,rfl⟩
 rw [hL'] at T' ⊢
 have mem : ∀ {e},e ∈ L' ↔ e = (sq M (kh C k) d,kh C k,Value.ref a) ∨ e ∈ L := fun {e} => by rw [← hL',eL,List.mem_append,List.mem_append,List.mem_cons,or_left_comm]
 have ln' : L'.length = n + 1 := by rw [← hL',List.length_append,List.length_cons,← ln,eL,List.length_append]; rfl
 have k1 : ∀ e ∈ L',∃ k' a,e.2 = (kh C k',.ref a) ∧ Key C s.heap k' a ∧ k' ∈ k :: l := fun e h => (mem.mp h).elim (fun q => ⟨k,a,congrArg (·.2) q,K,List.mem_cons_self⟩) fun q => let ⟨k',a',e1,e2,e3⟩ := he e q; ⟨k',a',e1,e2,List.mem_cons_of_mem _ e3⟩
 have m1 : ∀ k' ∈ k :: l,∃ e ∈ L',∃ a,e.2 = (kh C k',.ref a) ∧ Key C s.heap k' a := fun k' h => (List.mem_cons.mp h).elim (fun q => q ▸ ⟨_,mem.mpr (.inl rfl),a,rfl,K⟩) fun q => let ⟨e,h1,r⟩ := hm k' q; ⟨e,mem.mpr (.inr h1),r⟩
 have hz : (L'.map (·.2)).toArray.size ≤ sizeLine := by rw [List.size_toArray,List.length_map,ln']; exact Nat.le_trans (Nat.succ_le_succ hn) (by decide)
 have g1 : (s.heap.update b (Obj.putSet (L'.map (·.2)).toArray t1)).get? b = some { o with data := .set (L'.map (·.2)).toArray (ep + 1) t1 } := by
  have := Heap.get?_update_self (Obj.putSet (L'.map (·.2)).toArray t1) ho (by rw [putSet_of _ t1 dd]; rfl)
  rwa [putSet_of _ t1 dd] at this
 refine wpAny_bind (wpAny_storeSet_of ho dd ?_ hz)
 have sb := Heap.SameBut.update s.heap b (Obj.putSet (L'.map (·.2)).toArray t1)
 have T1 : ∀ M',Rmo M' (n + 1) → TI M' t1 L' → TSet C (s.heap.update b (Obj.putSet (L'.map (·.2)).toArray t1)) (k :: l) (n + 1) { o with data := .set (L'.map (·.2)).toArray (ep + 1) t1 } := fun M' r T => TSet.mono (tup_but ho ex.1 sb) ⟨M',t1,L',_,_,ln',r,ex,rfl,rfl,T,k1,m1⟩
 have fl : t1.fill = n + 1 := T'.fill.trans ln'
 have tf : t1.tooFull = decide ((n + 1) * 5 ≥ M * 3) := by unfold SetTable.tooFull; rw [fl,T'.mask]
 rcases rm with ⟨rfl,h4⟩ | ⟨rfl,_⟩
 ·rcases Nat.lt_or_ge n 4 with q | q
  ·rw [tf,decide_eq_false (by omega)]
   exact wpAny_pure (h _ _ _ true (Nat.le_refl _) sb g1 (T1 7 (.inl ⟨rfl,q⟩) T'))
  ·have : n = 4 := Nat.le_antisymm h4 q
   subst this
   rw [tf,if_pos (show (!false && decide ((4 + 1) * 5 ≥ 7 * 3)) = true from rfl),show es.size = 4 by rw [ee,List.size_toArray,List.length_map,ln]]
   refine wpAny_bind (relay_set (M' := 31) g1 rfl rfl T' (by rw [ln']; decide) (by decide) go31 (by rw [ln']; decide) (by decide) (by rw [ln']; decide) fun t2 L2' T2 p => wpAny_pure ?_)
   have sb2 := Heap.SameBut.trans sb (Heap.SameBut.update _ b (Obj.putSet (L2'.map (·.2)).toArray t2))
   have g2 := Heap.get?_update_self (Obj.putSet (L2'.map (·.2)).toArray t2) g1 (by rw [putSet_of _ t2 rfl]; rfl)
   rw [putSet_of _ t2 rfl] at g2
   have ln2 : L2'.length = 5 := by have := p.length_eq; rw [List.length_map,List.length_map,ln'] at this; exact this
   exact h _ _ 5 true (Nat.le_refl _) sb2 g2 (TSet.mono (tup_but ho ex.1 sb2) ⟨31,t2,L2',_,_,ln2,.inr ⟨rfl,by decide⟩,ex,rfl,rfl,T2,fun e he => let ⟨e',h1,h2⟩ := mem_perm p.symm he; h2 ▸ k1 e' h1,fun k' hk' => let ⟨e,h1,a',e1,e2⟩ := m1 k' hk'; let ⟨e',h3,h4⟩ := mem_perm p h1; ⟨e',h3,a',h4.trans e1,e2⟩⟩)
 ·rw [tf,decide_eq_false (by omega)]
  exact wpAny_pure (h _ _ _ true (Nat.le_refl _) sb g1 (T1 31 (.inr ⟨rfl,Nat.succ_le_succ hn⟩) T'))
end
end
section
section
variable {C : Cx} {A : Around} {E : Value → Shared → Prop} {s : Shared} {l : List (List Int)} {n : Nat} {o : Obj} {k : List Int} {a b : Addr}
theorem Key.at {h h' : Heap} (t : ∀ o,h.get? a = some o → h'.get? a = some o) : Key C h k a → Key C h' k a
 | ⟨o,vs,n,e,c,d,r⟩ => ⟨o,vs,n,t o e,c,d,r⟩
theorem Key.ncls {h : Heap} {t : String} (K : Key C h k a) (e : h.get? b = some o) (c : o.cls = .type t) (ht : "tuple" ≠ t) : a ≠ b := fun q => by
 obtain ⟨o',_,_,e',c',_⟩ := K
 rw [q,e] at e'
 rw [← Option.some.inj e',c] at c'
 exact ht (Value.type.inj c').symm
theorem set_loop {R : Result → Shared → Prop} {S I lst : Addr} {items : Array Value} {rows : List (List Int)} (hh : A.in1.handled = none) (hu : A.units + 4 < cLine) (hne : lst ≠ I) (hS : S ≠ I) (hSl : S ≠ lst) (hln : items.size = rows.length) (hsz : rows.length ≤ 18) :
  ∀ (k i : Nat) (s : Shared) (o : Obj) (m : Nat),rows.length - i = k → i ≤ rows.length → s.heap.IsListIter I lst i ∧ s.heap.IsList lst items → (∀ j v,items[j]? = some v → ∃ a,v = .ref a ∧ Key C s.heap (rows.getD j []) a) → s.heap.get? S = some o → TSet C s.heap (rows.take i).reverse m o → m ≤ i →
   (∀ h' tk o' m',(∀ b o,b ≠ S → b ≠ I → s.heap.get? b = some o → h'.get? b = some o) → h'.get? S = some o' → TSet C h' rows.reverse m' o' → R (.ok (.ret .none)) { s with heap := h',toks := tk }) →
   codeAny C.M A (.builtin "set.update.loop" ⟨[.ref S,.ref I],[]⟩) R s := by
 have W := Walks.list (prog := C.prog) (w := C.w) hh I lst hne items
 intro k
 induction k with
 | zero =>
  intro i s o m hk hi st keys ho x hm hR
  have hin : i = rows.length := Nat.le_antisymm hi (Nat.sub_eq_zero_iff_le.mp hk)
  subst hin
  rw [List.take_length] at x
  refine codeAny_builtin F.entry_set_update_loop ?_
  rw [Around.under_plainId F.plain_set_update_loop _]
  refine wpAny_bind (m := pyNext (.ref I)) (W.done s _ _ (hln ▸ st) fun h' tk hk => ?_)
  have hk' : ∀ b o,b ≠ I → s.heap.get? b = some o → h'.get? b = some o := fun b o hb => hk b o fun q => hb (List.mem_singleton.mp q)
  refine wpAny_pure (hR h' tk o m (fun b o _ hb => hk' b o hb) (hk' S o hS ho) (x.mono fun b o' _ _ e c _ => hk' b o' (fun q => ?_) e))
  obtain ⟨⟨oi,ei,ci,_⟩,_⟩ := st
  rw [q,ei] at e
  rw [← Option.some.inj e,ci] at c
  exact absurd (Value.type.inj c) (by decide)
 | succ k ih =>
  intro i s o m hk hi st keys ho x hm hR
  have hlt : i < rows.length := Nat.lt_of_sub_pos (hk ▸ Nat.succ_pos k)
  refine codeAny_builtin F.entry_set_update_loop ?_
  rw [Around.under_plainId F.plain_set_update_loop _]
  refine wpAny_bind (m := pyNext (.ref I)) (W.item i s _ _ (hln.symm ▸ hlt) st fun v h' tk hP st' hk' => ?_)
  have hk' : ∀ b o,b ≠ I → s.heap.get? b = some o → h'.get? b = some o := fun b o hb => hk' b o fun q => hb (List.mem_singleton.mp q)
  refine byG fun G9 k9 => ?_
  obtain ⟨oi,ei,ci,_⟩ := st.1
  have hv : items[i]? = some v := hP
  obtain ⟨a,rfl,K⟩ := keys i v hv
  refine k9 ?_
  clear k9 G9
  have tk1 : TupKeep s.heap h' := fun b o' _ _ e c _ => hk' b o' (fun q => by
   rw [q,ei] at e
   rw [← Option.some.inj e,ci] at c
   exact absurd (Value.type.inj c) (by decide)) e
  show wpAny _ A.in1 (holding [Value.ref a] (setAdd S (.ref a)) >>= _) _ _ _
  refine wpAny_bind (wpAny_holding ?_)
  unfold setAdd
  refine wpAny_holding (wpAny_bind (wpAny_pyHash_tuple (knd := iK C) (Nat.lt_of_le_of_lt (Nat.add_le_add_left (by decide : 1 ≤ 4) _) hu) (Key.keep tk1 K) ?_))
  have o1 := hk' S o hS ho
  refine (x.mono tk1).add (s := { s with heap := h',toks := tk + _ }) (Nat.le_trans hm (Nat.le_of_lt_succ (Nat.lt_of_lt_of_le hlt hsz))) (Nat.lt_of_le_of_lt (Nat.add_le_add_left (by decide : 1 ≤ 4) _) hu) o1 (Key.keep tk1 K) fun h2 o2 n2 r hn2 sb e2 x2 => ?_
  have sb' : ∀ b o,b ≠ S → h'.get? b = some o → h2.get? b = some o := fun b o hb e => (sb.2 b hb).trans e
  have e3 : rows.getD i [] :: (rows.take i).reverse = (rows.take (i + 1)).reverse := by
   rw [List.take_succ_eq_append_getElem hlt,List.reverse_append,List.getD_eq_getElem?_getD,List.getElem?_eq_getElem hlt]; rfl
  rw [e3] at x2
  refine wpAny_pure ⟨plainId_quiet F.plain_set_update_loop _,ih (i + 1) _ o2 n2 (by rw [Nat.sub_succ,hk]; rfl) hlt ⟨st'.1.at fun o e => sb' I o (Ne.symm hS) e,st'.2.at fun o e => sb' lst o (Ne.symm hSl) e⟩ (fun j v hj => ?_) e2 x2 (Nat.le_trans hn2 (Nat.succ_le_succ hm)) fun h3 tk3 o3 m3 hk3 e3 x3 => hR h3 tk3 o3 m3 (fun b o b1 b2 e => hk3 b o b1 b2 (sb' b o b1 (hk' b o b2 e))) e3 x3⟩
  obtain ⟨a',rfl,K'⟩ := keys j v hj
  exact ⟨a',rfl,Key.at (fun o e => sb' a' o (K'.ncls ho x.ex.1 (by decide)) (hk' a' o (K'.ncls ei ci (by decide)) e)) K'⟩
end
end
section
section
open SetTable
theorem TSet.new {C : Cx} {h : Heap} {led : Bool} : TSet C h [] 0 { cls := .type "set",dict := none,data := .set #[] 0 (.fresh 0 0 led) } :=
 ⟨7,.fresh 0 0 led,[],#[],0,rfl,.inl ⟨rfl,by decide⟩,⟨rfl,rfl,rfl⟩,rfl,rfl,⟨rfl,rfl,rfl,.nil,fun e h => absurd h List.not_mem_nil,fun e h => absurd h List.not_mem_nil⟩,fun e h => absurd h List.not_mem_nil,fun k h => absurd h List.not_mem_nil⟩
end
section
variable {C : Cx} {A : Around} {E : Value → Shared → Prop} {s : Shared}
theorem u2 {n m : Nat} (h : n + 20 < m) : n + 1 < m := by omega
theorem u1 {n m : Nat} (h : n + 20 < m) : n + 1 + 1 + 4 < m := by omega
set_option maxHeartbeats 8000000 in
theorem call_setT {lst : Addr} {items : Array Value} {rows : List (List Int)} {Q : Value → Shared → Prop} (hh : A.handled = none) (hu : A.units + 20 < cLine) (hl : s.heap.IsList lst items) (hln : items.size = rows.length) (hsz : rows.length ≤ 18) (keys : ∀ j v,items[j]? = some v → ∃ a,v = .ref a ∧ Key C s.heap (rows.getD j []) a)
  (h : ∀ h' tk o m,(∀ b o,s.heap.get? b = some o → h'.get? b = some o) → h'.get? s.heap.objs.size = some o → TSet C h' rows.reverse m o → Q (.ref s.heap.objs.size) { s with heap := h',toks := tk }) : wpAny C.M A (call (.type "set") [.ref lst]) Q E s := by
 obtain ⟨c,tl,hmro⟩ := F.called_set.mro
 have hmade := F.called_set.made
 have hsub := F.called_set.sub
 refine wpAny_call (codeAny_of_tree ?_)
 show wpAny _ _ (callAny (.type "set") _) _ _ _
 refine wpAny_pure ⟨Code.quiet_builtin _ (by decide +kernel),codeAny_builtin F.entry_type_call ?_⟩
 rw [Around.under_plain (weight_type_call_type "set" [.ref lst] []) rfl]
 have h1 := F.called_set.notType
 have h2 := F.called_set.canCreate
 have hct := F.typeCall_set_1 (.ref lst)
 repeat (any_goals (first | assumption | wp_step))
 refine codeAny_mono (code_set_new_1 (.ref lst) (E := E) (Q₁ := fun obj s₁ => ∃ led : Bool,obj = .ref s.heap.objs.size ∧ s₁ = { s with heap := s.heap.push { cls := .type "set",dict := none,data := .set #[] 0 (.fresh 0 0 led) } }) fun led => ⟨led,rfl,rfl⟩) fun r s₁ hr => ?_
 cases r with
 | error e => exact hr
 | ok fl =>
  cases fl with
  | ret obj =>
   obtain ⟨led,rfl,rfl⟩ := hr
   have hS : (s.heap.push { cls := .type "set",dict := none,data := .set #[] 0 (.fresh 0 0 led) }).get? s.heap.objs.size = some { cls := .type "set",dict := none,data := .set #[] 0 (.fresh 0 0 led) } := Heap.get?_push_size _ rfl
   have hT : Shared.TypeIs { s with heap := s.heap.push { cls := .type "set",dict := none,data := .set #[] 0 (.fresh 0 0 led) } } (.ref s.heap.objs.size) "set" := ⟨_,hS,rfl⟩
   have hli := F.called_set.init.lookup
   have hbi := F.called_set.init.bind (.ref s.heap.objs.size)
   repeat (any_goals (first | assumption | wp_step))
   refine codeAny_mono (codeAny_call_builtin (R := wants (fun r s₂ => r = .none ∧ ∃ h' tk o m,s₂ = { s with heap := h',toks := tk } ∧ (∀ b o,s.heap.get? b = some o → h'.get? b = some o) ∧ h'.get? s.heap.objs.size = some o ∧ TSet C h' rows.reverse m o) E) F.called_set.init.plain F.entry_set_init (check_set_init_1 hT ?_)) fun r₂ s₂ hr₂ => ?_
   ·refine byG fun G9 k9 => ?_
    obtain ⟨ol,hol,hcl,nl,hdl⟩ := hl
    obtain ⟨ocls,odict,odata,oslots⟩ := ol
    refine k9 ?_
    clear k9 G9
    simp only at hcl hdl
    subst hcl; subst hdl
    have hol' : (s.heap.push { cls := .type "set",dict := none,data := .set #[] 0 (.fresh 0 0 led) }).get? lst = some { cls := .type "list",dict := odict,data := .seq items nl,slots := oslots } := Heap.get?_push_of_some _ hol
    have hsls := F.sub_list_set
    have hslf := F.sub_list_frozenset
    have hne : (Value.type "list" == Value.type "dict") = false := by decide
    have hl1 : (s.heap.push { cls := .type "set",dict := none,data := .set #[] 0 (.fresh 0 0 led) }).IsList lst items := ⟨_,hol',rfl,nl,rfl⟩
    unfold Builtin.«set.__init__» noKeywords Builtin.Frozenset.updateFrom
    generalize hPI : pyIter = PI
    wp_walk
    subst hPI
    refine wpAny_pyIter_list hl1 ?_
    refine wpAny_bind (wpAny_runValue ?_)
    have hlS : lst < s.heap.objs.size := Heap.lt_size hol
    have n1 : lst ≠ (s.heap.push { cls := .type "set",dict := none,data := .set #[] 0 (.fresh 0 0 led) }).objs.size := by rw [Heap.size_push]; exact Nat.ne_of_lt (Nat.lt_succ_of_lt hlS)
    have n2 : s.heap.objs.size ≠ (s.heap.push { cls := .type "set",dict := none,data := .set #[] 0 (.fresh 0 0 led) }).objs.size := by rw [Heap.size_push]; exact Nat.ne_of_lt (Nat.lt_succ_self _)
    refine set_loop (o := { cls := .type "set",dict := none,data := .set #[] 0 (.fresh 0 0 led) }) (m := 0) (by exact hh) ?_ n1 n2 (Nat.ne_of_gt hlS) hln hsz rows.length 0 _ (Nat.sub_zero _) (Nat.zero_le _) ⟨⟨_,Heap.get?_push_size _ rfl,rfl,rfl⟩,hl1.push _⟩ (fun j v hj => (keys j v hj).imp fun a r => ⟨r.1,Key.at (fun o e => Heap.get?_push_of_some _ (Heap.get?_push_of_some _ e)) r.2⟩) (Heap.get?_push_of_some _ hS) TSet.new (Nat.le_refl _) fun h' tk o' m' hk e x => ?_
    ·exact u1 hu
    ·show wpAny _ _ _ _ _ _
     refine wpAny_pure ?_
     show wpAny _ _ (ret Value.none) _ _ _
     refine wpAny_pure ⟨rfl,h',tk,o',m',rfl,fun b o e => ?_,e,x⟩
     have hb := Heap.lt_size e
     exact hk b o (Nat.ne_of_lt hb) (Nat.ne_of_lt (by rw [Heap.size_push]; exact Nat.lt_succ_of_lt hb)) (Heap.get?_push_of_some _ (Heap.get?_push_of_some _ e))
   ·cases r₂ with
    | error e => exact hr₂
    | ok fl₂ =>
     cases fl₂ with
     | ret r =>
      refine byG fun G9 k9 => ?_
      obtain ⟨rfl,h',tk,o,m,rfl,h3,h4,h5⟩ := hr₂
      refine k9 ?_
      clear k9 G9
      repeat (any_goals (first | assumption | wp_step))
      exact h _ _ _ _ h3 h4 h5
     | _ => exact hr₂.elim
  | _ => exact hr.elim
end
section
variable {P : Pr} {E : StE} {k : List Int} {l : List (List Int)}
theorem r_setOf {e : Expr} {p pos : Pos} (hu : P.un = true) (he : Xd P E e (lT l)) (hs : noStar e = true) (hg : isGl P.names "set" = true) (hz : l.length ≤ 18) : Ex P E (.Call (.Name "set" p) [e] [] pos) (.set l.reverse) :=
 call_b1 he hs hg rfl rfl (by decide) keep_type fun f z s w ok S ⟨b,vs,e,hl,hr⟩ Q X q => by
  subst e
  have ln : vs.toArray.size = l.length := by rw [List.size_toArray,hr.length,List.length_map]
  refine call_setT (ok.un hu) (by have := S.rm.units; omega) hl ln hz (fun j v hj => ?_) fun h' tk o m hk e x => ?_
  ·rw [List.getElem?_toArray] at hj
   have hlt : j < l.length := ln ▸ (List.getElem?_eq_some_iff.mp hj).1
   obtain ⟨v',h1,h2⟩ := hr.get (i := j) (d := tI l[j]) (by rw [List.getElem?_map,List.getElem?_eq_getElem hlt]; rfl)
   rw [hj] at h1
   cases h1
   rw [List.getD_eq_getElem?_getD,List.getElem?_eq_getElem hlt]
   exact rd_key (C := P.C) h2
  ·refine q _ _ (Kp.of_keep hk) ⟨_,o,m,rfl,e,fun l => ?_,x⟩
   obtain ⟨o',e'⟩ := S.lt' _ l
   exact absurd (Heap.lt_size e') (Nat.lt_irrefl _)
theorem inS_op {C : Cx} {A : Around} {X : Value → Shared → Prop} {s : Shared} {a b : Addr} {n : Nat} {o : Obj} {Q : Value → Shared → Prop} (hu : A.units + 20 < cLine) (ho : s.heap.get? b = some o) (x : TSet C s.heap l n o) (K : Key C s.heap k a) (q : ∀ tk,Q (.bool (decide (k ∈ l))) { s with toks := tk }) : wpAny C.M A (compareOp .In (.ref a) (.ref b)) Q X s := by
 have hT : s.TypeIs (.ref b) "set" := ⟨o,ho,x.ex.1⟩
 show wpAny _ _ (do return .bool (← contains (.ref b) (.ref a))) Q _ s
 refine wpAny_bind ?_
 unfold contains
 refine wpAny_holding ?_
 refine wpAny_bind (wpAny_specialOf hT F.slot_set_contains.lookup ?_)
 show wpAny _ _ (if (some (Value.builtin "set.__contains__") == some Value.none) = true then _ else _) _ _ s
 rw [if_neg (by rw [beq_builtin_none]; exact Bool.false_ne_true)]
 refine wpAny_bind (wpAny_callSpecialUnlessNone?_slot (name := Str.ofString "__contains__") hT F.slot_set_contains (wpAny_call_entry F.slot_set_contains hT entry_set_contains ?_ (F.args_set_contains_2 _ _)))
 unfold Builtin.«frozenset.__contains__» Builtin.Frozenset.oneOther
 refine wpAny_bind (wpAny_bind (wpAny_pure (wpAny_pure ?_)))
 dsimp only
 unfold Builtin.Frozenset.withSetAsKey setContains
 refine wpAny_bind (wpAny_tryCatch (wpAny_holding ?_))
 refine wpAny_bind (wpAny_pyHash_tuple (knd := iK C) (u2 hu) K ?_)
 refine wpAny_bind (find_set (s := { s with toks := s.toks + _ }) x (u2 hu) ho K fun r hr => ?_)
 refine wpAny_pure ?_
 show wpAny _ _ (ret (Value.bool r.isSome)) _ _ _
 rw [hr]
 exact wpAny_pure ⟨_,rfl,wpAny_truthy_bool (wpAny_pure (q _))⟩
theorem t_inS {e1 e2 : Expr} {p : Pos} (hl : Ex P E e1 (.dat (tI k))) (hr : Ex P E e2 (.set l)) (hs : noSet e2 = true) : Xt P E (.Compare e1 [.In] [e2] p) (decide (k ∈ l)) := fun f z s ok S Q X q =>
 wpAny_isTrue_Compare1 (hl f z s ok S _ _ fun w s1 k1 r1 => hr f z s1 ok (S.kp k1) _ _ fun w2 s2 k2 r2 => by
  obtain ⟨b,rfl,K⟩ := rd_key (C := P.C) r1
  obtain ⟨a,o,n,rfl,ho,_,x⟩ := r2
  exact inS_op (by have := (S.kp (k1.trans k2)).rm.units; omega) ho x (K.keep k2.tup) fun tk => wpAny_truthy_bool (q _ ((k1.trans k2).trans (Kp.of_keep fun _ _ e => e)))) (noSet_marks hs)
end
end
section
noncomputable def KOk {α : Type} (lt : Nat → Nat → Bool) (n : Nat) : KasT α → (α → Prop) → Prop
 | .ret a,Q => Q a
 | .ask i j k,Q => i < n ∧ j < n ∧ KOk lt n (k (lt i j)) Q
section
variable {α β : Type} {lt : Nat → Nat → Bool} {n : Nat}
theorem KOk.bind {f : α → KasT β} {Q : β → Prop} : ∀ {t : KasT α},KOk lt n t (fun a => KOk lt n (f a) Q) → KOk lt n (t.bind f) Q
 | .ret _,h => h
 | .ask i j k,h => ⟨h.1,h.2.1,KOk.bind (t := k (lt i j)) h.2.2⟩
theorem ask_b {b : Bool} {i j : Nat} {k : Bool → KasT α} {Q : α → Prop} (hi : i < n) (hj : j < n) (h : lt i j = b) (hk : KOk lt n (k b) Q) : KOk lt n (.ask i j k) Q := ⟨hi,hj,h.symm ▸ hk⟩
theorem KOk.wp {cmp : Nat → Nat → (Bool → Shared → Prop) → Shared → Prop} {I : Shared → Prop} {Q : α → Prop} {R : α → Shared → Prop} (hc : ∀ i j C s,i < n → j < n → I s → (∀ s',I s' → C (lt i j) s') → cmp i j C s) (hr : ∀ a s,I s → Q a → R a s) : ∀ {t : KasT α} {s : Shared},I s → KOk lt n t Q → t.kasWp cmp R s
 | .ret _,s,hI,h => hr _ _ hI h
 | .ask i j k,s,hI,h => hc i j _ s h.1 h.2.1 hI fun s' hI' => KOk.wp hc hr (t := k (lt i j)) hI' h.2.2
end
structure OrdN (lt : Nat → Nat → Bool) (n : Nat) : Prop where
 tr : ∀ {i j k},lt i j = true → lt j k = true → lt i k = true
 to : ∀ {i j},i < n → j < n → i ≠ j → lt i j = false → lt j i = true
structure Pm (n : Nat) (p : Array Nat) : Prop where
 pm : p.Perm (List.toArray (List.range n))
section
variable {n : Nat} {p : Array Nat}
theorem Pm.size (h : Pm n p) : p.size = n := by
 have := h.pm.toList.length_eq
 rw [Array.length_toList,List.length_range] at this
 exact this
theorem getD_ge {i : Nat} (h : p.size ≤ i) : p.getD i 0 = 0 := by rw [Array.getD_eq_getD_getElem?,Array.getElem?_eq_none h]; rfl
theorem getD_l {i : Nat} (h : i < p.toList.length) : p.getD i 0 = p.toList[i] := by rw [Array.getD_eq_getD_getElem?,Array.getElem?_eq_getElem (Array.length_toList ▸ h)]; rfl
theorem Pm.lt (h : Pm n p) (hn : 0 < n) (i : Nat) : p.getD i 0 < n := by
 by_cases hi : i < p.toList.length
 ·rw [getD_l hi]
  exact List.mem_range.mp (h.pm.toList.mem_iff.mp (List.getElem_mem hi))
 ·rw [getD_ge (Nat.le_of_not_lt (Array.length_toList ▸ hi))]; exact hn
theorem Pm.inj (h : Pm n p) {i j : Nat} (hi : i < n) (hj : j < n) (e : p.getD i 0 = p.getD j 0) : i = j := by
 have hs : p.toList.length = n := Array.length_toList.trans h.size
 have hn : p.toList.Nodup := h.pm.toList.nodup_iff.mpr List.nodup_range
 rw [getD_l (hs.symm ▸ hi),getD_l (hs.symm ▸ hj)] at e
 exact (List.getElem_inj hn).mp e
end
section
variable {lt : Nat → Nat → Bool} {n : Nat} {p : Array Nat}
noncomputable abbrev Ah (lt : Nat → Nat → Bool) (p : Array Nat) (i j : Nat) : Prop := lt (p.getD i 0) (p.getD j 0) = true
noncomputable def Up' (lt : Nat → Nat → Bool) (p : Array Nat) (b : Nat) : Prop := ∀ i,i + 1 < b → Ah lt p i (i + 1)
noncomputable def Dn (lt : Nat → Nat → Bool) (p : Array Nat) (b : Nat) : Prop := ∀ i,i + 1 < b → Ah lt p (i + 1) i
theorem lt_cases {i m : Nat} (h : i + 1 < m + 2) : i + 1 < m + 1 ∨ i = m := (Nat.lt_or_ge i m).imp Nat.succ_lt_succ fun q => Nat.le_antisymm (Nat.le_of_lt_succ (Nat.lt_of_succ_lt_succ h)) q
theorem Up'.snoc {m : Nat} (h : Up' lt p (m + 1)) (a : Ah lt p m (m + 1)) : Up' lt p (m + 2) := fun i hi => (lt_cases hi).elim (h i) fun q => q ▸ a
theorem Dn.snoc {m : Nat} (h : Dn lt p (m + 1)) (a : Ah lt p (m + 1) m) : Dn lt p (m + 2) := fun i hi => (lt_cases hi).elim (h i) fun q => q ▸ a
theorem Up'.one : Up' lt p 1 := fun i h => absurd h (Nat.not_lt.mpr (Nat.le_add_left 1 i))
theorem Dn.one : Dn lt p 1 := fun i h => absurd h (Nat.not_lt.mpr (Nat.le_add_left 1 i))
variable (O : OrdN lt n) (hn : 0 < n)
include O
theorem Up'.all {b : Nat} (h : Up' lt p b) {i j : Nat} (hij : i < j) (hj : j < b) : Ah lt p i j := by
 induction j with
 | zero => exact absurd hij (Nat.not_lt_zero _)
 | succ j ih =>
  rcases Nat.lt_or_ge i j with q | q
  ·exact O.tr (ih q (Nat.lt_of_succ_lt hj)) (h j hj)
  ·exact Nat.le_antisymm (Nat.le_of_lt_succ hij) q ▸ h j hj
include hn
theorem Pm.to (h : Pm n p) {i j : Nat} (hi : i < n) (hj : j < n) (hij : i ≠ j) (c : lt (p.getD i 0) (p.getD j 0) = false) : Ah lt p j i := O.to (h.lt hn i) (h.lt hn j) (fun e => hij (h.inj hi hj e)) c
theorem asc_ok (h : Pm n p) {Q : Nat → Prop} : ∀ {f m : Nat},m + 1 + f = n → Up' lt p (m + 1) → (∀ m',m ≤ m' → m' < n → Up' lt p (m' + 1) → (m' + 1 < n → Ah lt p (m' + 1) m') → Q (m' + 1)) → KOk lt n (kas_asc p f (m + 1)) Q
 | 0,m,hf,hU,q => q m (Nat.le_refl _) (Nat.lt_of_succ_le (Nat.le_of_eq hf)) hU fun hl => absurd hl (Nat.not_lt.mpr (Nat.le_of_eq hf.symm))
 | f + 1,m,hf,hU,q => by
  have hm : m + 1 < n := Nat.lt_of_lt_of_le (Nat.lt_add_of_pos_right (Nat.succ_pos f)) (Nat.le_of_eq hf)
  cases c : lt (p.getD (m + 1) 0) (p.getD m 0) with
  | true => exact ask_b (h.lt hn _) (h.lt hn _) c (q m (Nat.le_refl _) (Nat.lt_of_succ_lt hm) hU fun _ => c)
  | false =>
   refine ask_b (h.lt hn _) (h.lt hn _) c ?_
   exact asc_ok (f := f) (m := m + 1) h (by rw [← hf,Nat.add_assoc (m + 1),Nat.add_comm 1]) (hU.snoc (h.to O hn hm (Nat.lt_of_succ_lt hm) (Nat.succ_ne_self m) c)) fun m' hm' => q m' (Nat.le_of_succ_le hm')
theorem desc_ok (h : Pm n p) {Q : Array Nat × Nat × Nat → Prop} : ∀ {f m : Nat},m + 1 + f = n → Dn lt p (m + 1) → (∀ m',m ≤ m' → m' < n → Dn lt p (m' + 1) → Q (p,m' + 1,0)) → KOk lt n (kas_desc f p (m + 1) 0) Q
 | 0,m,hf,hU,q => q m (Nat.le_refl _) (Nat.lt_of_succ_le (Nat.le_of_eq hf)) hU
 | f + 1,m,hf,hU,q => by
  have hm : m + 1 < n := Nat.lt_of_lt_of_le (Nat.lt_add_of_pos_right (Nat.succ_pos f)) (Nat.le_of_eq hf)
  cases c : lt (p.getD (m + 1) 0) (p.getD m 0) with
  | true =>
   refine ask_b (h.lt hn _) (h.lt hn _) c ?_
   exact desc_ok (f := f) (m := m + 1) h (by rw [← hf,Nat.add_assoc (m + 1),Nat.add_comm 1]) (hU.snoc c) fun m' hm' => q m' (Nat.le_of_succ_le hm')
  | false => exact ask_b (h.lt hn _) (h.lt hn _) c (ask_b (h.lt hn _) (h.lt hn _) (h.to O hn hm (Nat.lt_of_succ_lt hm) (Nat.succ_ne_self m) c) (q m (Nat.le_refl _) (Nat.lt_of_succ_lt hm) hU))
omit O hn
theorem rev_sub {m i : Nat} (h : i + 1 < m) : m - 1 - (i + 1) + 1 = m - 1 - i ∧ m - 1 - (i + 1) + 1 < m := by omega
theorem rev_ok (h : Pm n p) {m : Nat} (hm : m ≤ n) (hD : Dn lt p m) : Pm n (kas_rev p 0 m) ∧ Up' lt (kas_rev p 0 m) m := by
 have g : ∀ k,k < m → (kas_rev p 0 m).getD k 0 = p.getD (m - 1 - k) 0 := fun k hk => by
  have e := getElem?_mirror_all (xs := p) (i := 0) (j := m) (h.size.symm ▸ hm) k
  rw [Array.getD_eq_getD_getElem?,Array.getD_eq_getD_getElem?]
  unfold kas_rev
  rw [e,if_pos ⟨Nat.zero_le _,hk⟩,Nat.zero_add]
 refine ⟨⟨(mirror_perm p 0 m ((m - 0) / 2)).trans h.pm⟩,fun i hi => ?_⟩
 obtain ⟨e1,e2⟩ := rev_sub hi
 show lt _ _ = true
 rw [g i (Nat.lt_of_succ_lt hi),g (i + 1) hi,← e1]
 exact hD _ e2
include O hn
theorem count_ok (h : Pm n p) {Q : Nat × Array Nat → Prop} (q : ∀ m p',m < n → Pm n p' → Up' lt p' (m + 1) → Q (m + 1,p')) : KOk lt n (kas_count n p) Q := by
 refine KOk.bind (asc_ok O hn h (f := n - 1) (m := 0) (by rw [Nat.zero_add]; exact Nat.add_sub_of_le hn) .one fun m _ hm hU hst => ?_)
 by_cases e : m + 1 = n
 ·rw [if_pos (beq_iff_eq.mpr e)]
  exact q m p hm h hU
 ·rw [if_neg (fun x => e (eq_of_beq x))]
  have hlt : m + 1 < n := Nat.lt_of_le_of_ne hm e
  by_cases e1 : m + 1 > 1
  ·rw [if_pos e1]
   exact ask_b (h.lt hn _) (h.lt hn _) (hU.all O (i := 0) (j := m) (Nat.lt_of_succ_lt_succ e1) (Nat.lt_succ_self m)) (q m p hm h hU)
  ·rw [if_neg e1]
   obtain rfl : m = 0 := Nat.eq_zero_of_not_pos fun x => e1 (Nat.succ_lt_succ x)
   refine KOk.bind (desc_ok O hn h (f := n - 2) (m := 1) (Nat.add_sub_of_le hlt) (Dn.one.snoc (hst hlt)) fun m' _ hm' hD => ?_)
   obtain ⟨P2,U2⟩ := rev_ok h hm' hD
   exact KOk.bind (asc_ok O hn P2 (f := n - (m' + 1)) (m := m') (Nat.add_sub_of_le hm') U2 fun m2 _ hm2 hU2 _ => q m2 _ hm2 P2 hU2)
theorem mid_ok {l r f : Nat} (h : l < r) (h3 : r ≤ l + (f + 1)) : l ≤ (l + r) / 2 ∧ (l + r) / 2 < r ∧ (l + r) / 2 ≤ l + f ∧ r ≤ (l + r) / 2 + 1 + f := by omega
theorem place_ok (h : Pm n p) {k : Nat} (hk : k < n) (hU : Up' lt p k) {Q : Nat → Prop} (q : ∀ l,l ≤ k → (∀ i,i < l → Ah lt p i k) → (∀ i,l ≤ i → i < k → Ah lt p k i) → Q l) : ∀ {f l r : Nat},l ≤ r → r ≤ k → r ≤ l + f → (∀ i,i < l → Ah lt p i k) → (∀ i,r ≤ i → i < k → Ah lt p k i) → KOk lt n (kas_place p k f l r) Q
 | 0,l,r,h1,h2,h3,hl,hr => q l (Nat.le_trans h1 h2) hl fun i hi => hr i (Nat.le_trans h3 hi)
 | f + 1,l,r,h1,h2,h3,hl,hr => by
  unfold kas_place
  by_cases e : l ≥ r
  ·rw [if_pos e]; exact q l (Nat.le_trans h1 h2) hl fun i hi => hr i (Nat.le_trans e hi)
  ·rw [if_neg e]
   obtain ⟨m1,m2,m3,m4⟩ := mid_ok O hn (Nat.lt_of_not_le e) h3
   generalize (l + r) / 2 = c at m1 m2 m3 m4
   have hck : c < k := Nat.lt_of_lt_of_le m2 h2
   cases hlt : lt (p.getD k 0) (p.getD c 0) with
   | true =>
    refine ask_b (h.lt hn _) (h.lt hn _) hlt ?_
    exact place_ok (f := f) h hk hU q m1 (Nat.le_of_lt hck) m3 hl fun i hi hik => (Nat.lt_or_ge c i).elim (fun e2 => O.tr hlt (hU.all O e2 hik)) fun e2 => Nat.le_antisymm hi e2 ▸ hlt
   | false =>
    have hc := h.to O hn hk (Nat.lt_trans hck hk) (Nat.ne_of_gt hck) hlt
    refine ask_b (h.lt hn _) (h.lt hn _) hlt ?_
    exact place_ok (f := f) h hk hU q m2 h2 m4 (fun i hi => (Nat.lt_or_ge i c).elim (fun e2 => O.tr (hU.all O e2 hck) hc) fun e2 => Nat.le_antisymm (Nat.le_of_lt_succ hi) e2 ▸ hc) hr
omit O hn
theorem bubble_ok (h : Pm n p) {k l : Nat} (hk : k < n) (hl : l ≤ k) (h1 : ∀ i,i < l → Ah lt p i k) (h2 : ∀ i,l ≤ i → i < k → Ah lt p k i) (hU : Up' lt p k) : Pm n (bubble p k (k - l)) ∧ Up' lt (bubble p k (k - l)) (k + 1) := by
 have g : ∀ i,i ≤ k → (bubble p k (k - l)).getD i 0 = if i = l then p.getD k 0 else if l < i then p.getD (i - 1) 0 else p.getD i 0 := fun i hi => by
  have e := getElem?_bubble (xs := p) (src := k) (h.size.symm ▸ hk) (k - l) (Nat.sub_le k l) i
  rw [Array.getD_eq_getD_getElem?,e,Nat.sub_sub_self hl]
  by_cases c : i = l
  ·rw [if_pos c,if_pos c,Array.getD_eq_getD_getElem?]
  ·rw [if_neg c,if_neg c]
   by_cases c2 : l < i
   ·rw [if_pos ⟨c2,hi⟩,if_pos c2,Array.getD_eq_getD_getElem?]
   ·rw [if_neg (fun q => c2 q.1),if_neg c2,Array.getD_eq_getD_getElem?]
 refine ⟨⟨(bubble_perm p k (k - l)).trans h.pm⟩,fun i hi => ?_⟩
 have hi := Nat.lt_of_succ_lt_succ hi
 show lt _ _ = true
 rw [g i (Nat.le_of_lt hi),g (i + 1) hi]
 rcases Nat.lt_trichotomy i l with c | c | c
 ·rw [if_neg (Nat.ne_of_lt c),if_neg (Nat.lt_asymm c)]
  by_cases c3 : i + 1 = l
  ·rw [if_pos c3]; exact h1 i c
  ·rw [if_neg c3,if_neg (Nat.not_lt.mpr c)]; exact hU i (Nat.lt_of_lt_of_le (Nat.lt_of_le_of_ne c c3) hl)
 ·rw [if_pos c,if_neg (by rw [c]; exact Nat.succ_ne_self l),if_pos (by rw [c]; exact Nat.lt_succ_self l)]
  exact h2 i (Nat.le_of_eq c.symm) hi
 ·rw [if_neg (Nat.ne_of_gt c),if_pos c,if_neg (Nat.ne_of_gt (Nat.lt_succ_of_lt c)),if_pos (Nat.lt_succ_of_lt c)]
  obtain ⟨j,rfl⟩ := Nat.exists_eq_succ_of_ne_zero (Nat.ne_of_gt (Nat.zero_lt_of_lt c))
  exact hU j hi
include O hn
theorem bin_ok : ∀ {f k : Nat} {p : Array Nat},Pm n p → k + f = n → Up' lt p k → KOk lt n (kas_bin f p k) fun p' => Pm n p' ∧ Up' lt p' n
 | 0,k,p,h,hf,hU => ⟨h,hf ▸ hU⟩
 | f + 1,k,p,h,hf,hU => by
  have hk : k < n := Nat.lt_of_lt_of_le (Nat.lt_add_of_pos_right (Nat.succ_pos f)) (Nat.le_of_eq hf)
  refine KOk.bind (place_ok O hn h hk hU (fun l hl a1 a2 => ?_) (Nat.zero_le _) (Nat.le_refl _) (Nat.le_of_eq (Nat.zero_add k).symm) (fun i hi => absurd hi (Nat.not_lt_zero i)) fun i hi hik => absurd hik (Nat.not_lt.mpr hi))
  obtain ⟨P2,U2⟩ := bubble_ok h hk hl a1 a2 hU
  exact bin_ok P2 (by rw [← hf,Nat.add_assoc,Nat.add_comm 1]) U2
theorem sort_ok : KOk lt n (kas_sort n) fun p => Pm n p ∧ Up' lt p n := by
 refine KOk.bind (count_ok O hn ⟨.refl _⟩ fun m p' hm h hU => ?_)
 show KOk _ _ (if m + 1 < n then kas_bin (n - max (m + 1) 1) p' (max (m + 1) 1) else .ret p') _
 by_cases e : m + 1 < n
 ·rw [if_pos e,Nat.max_eq_left (Nat.succ_pos m)]
  exact bin_ok O hn h (Nat.add_sub_of_le hm) hU
 ·rw [if_neg e]
  exact ⟨h,Nat.le_antisymm hm (Nat.le_of_not_lt e) ▸ hU⟩
end
end
section
noncomputable def lexL : List Int → List Int → Bool
 | _,[] => false
 | [],_ :: _ => true
 | a :: x,b :: y => if a = b then lexL x y else decide (a < b)
theorem lexL_nil {x : List Int} : lexL x [] = false := by cases x <;> rfl
theorem lexL_cons {a b : Int} {x y : List Int} : lexL (a :: x) (b :: y) = true ↔ a < b ∨ (a = b ∧ lexL x y = true) := by
 show (if a = b then lexL x y else decide (a < b)) = true ↔ _
 by_cases e : a = b
 ·rw [if_pos e]; exact ⟨fun h => .inr ⟨e,h⟩,fun h => h.elim (fun q => absurd e (Int.ne_of_lt q)) (·.2)⟩
 ·rw [if_neg e,decide_eq_true_eq]; exact ⟨.inl,fun h => h.elim id fun q => absurd q.1 e⟩
theorem lexL_tr : ∀ {x y z : List Int},lexL x y = true → lexL y z = true → lexL x z = true
 | x,[],z,h,_ => by rw [lexL_nil] at h; cases h
 | x,b :: y,[],_,h => by cases h
 | [],b :: y,c :: z,_,_ => rfl
 | a :: x,b :: y,c :: z,h,k => by
  rw [lexL_cons] at h k ⊢
  rcases h with h | ⟨rfl,h⟩
  ·rcases k with k | ⟨rfl,k⟩
   ·exact .inl (Int.lt_trans h k)
   ·exact .inl h
  ·exact k.imp id fun k => ⟨k.1,lexL_tr h k.2⟩
theorem lexL_to : ∀ {x y : List Int},x ≠ y → lexL x y = false → lexL y x = true
 | [],[],n,_ => absurd rfl n
 | [],b :: y,_,h => by cases h
 | a :: x,[],_,_ => rfl
 | a :: x,b :: y,n,h => by
  rw [lexL_cons]
  rw [← Bool.not_eq_true,lexL_cons] at h
  rcases Int.lt_trichotomy a b with q | q | q
  ·exact absurd (.inl q) h
  ·subst q
   exact .inr ⟨rfl,lexL_to (fun e => n (by rw [e])) (Bool.eq_false_iff.mpr fun e => h (.inr ⟨rfl,e⟩))⟩
  ·exact .inl q
theorem lexL_irr : ∀ x : List Int,lexL x x = false
 | [] => rfl
 | a :: x => (if_pos rfl).trans (lexL_irr x)
section
variable {prog : Program} {w : World} {A : Around} {E : Value → Shared → Prop} {s : Shared}
theorem tup_lt_tree {x y : List Int} {a b : Addr} {P : PySem.Fin → Shared → Prop} (hx : IsTupleKey (intKind prog w) s.heap x a) (hy : IsTupleKey (intKind prog w) s.heap y b) (h : P (.done (.ret (.bool (lexL x y)))) s) :
  wpAny (model prog w) A (Builtin.«tuple.__lt__» ⟨[.ref a,.ref b],[]⟩) P E s := by
 have hTb := hy.typeIs
 refine byG fun G9 k9 => ?_
 obtain ⟨oa,xs,na,hoa,_,hda,hia⟩ := hx
 obtain ⟨ob,ys,nb,hob,_,hdb,hib⟩ := hy
 refine k9 ?_
 clear k9 G9
 show wpAny _ _ (isInstance (.ref b) (.type "tuple") >>= _) _ _ s
 refine wpAny_bind (wpAny_isInstance hTb isSubtype_tuple_tuple ?_)
 rw [if_neg (by decide)]
 refine wpAny_bind (wpAny_tupleItemsOf hoa hda (wpAny_bind (wpAny_tupleItemsOf hob hdb (wpAny_bind ?_))))
 refine wpAny_forIn_list _
  (fun rest r s' => r.1 = none ∧ s' = s ∧ ∃ x' y' xs' ys',rest = List.zip xs' ys' ∧ ItemsAre (intKind prog w) x' xs' ∧ ItemsAre (intKind prog w) y' ys' ∧ lexL x' y' = lexL x y ∧ decide (xs'.length < ys'.length) = decide (xs.size < ys.size))
  _ ?_ ?_ _ _ ⟨rfl,rfl,x,y,xs.toList,ys.toList,rfl,hia,hib,rfl,rfl⟩
 ·rintro ⟨u,v⟩ rest r s' ⟨hr,rfl,x',y',xs',ys',hz,hx',hy',hdec,hlen⟩
  cases hx' with
  | nil => cases hz
  | @cons k1 u' x'' xs'' h1 hx'' =>
   cases hy' with
   | nil => cases hz
   | @cons k2 v' y'' ys'' h2 hy'' =>
    rw [List.zip_cons_cons] at hz
    obtain ⟨hz1,hz2⟩ := List.cons.inj hz
    cases hz1
    refine wpAny_bind ((intKind prog w).eqBool (a := k1) (b := k2) h1 h2 ?_)
    by_cases hk : k1 = k2
    ·subst hk
     rw [decide_eq_true rfl]
     refine wpAny_pure ⟨rfl,rfl,x'',y'',xs'',ys'',hz2,hx'',hy'',(if_pos rfl).symm.trans hdec,?_⟩
     rw [← hlen]
     exact decide_eq_decide.mpr ⟨Nat.succ_lt_succ,Nat.lt_of_succ_lt_succ⟩
    ·rw [decide_eq_false hk]
     have hf : lexL x y = decide (k1 < k2) := hdec.symm.trans (if_neg hk)
     rw [hf] at h
     obtain ⟨t1,rfl⟩ := Value.isInt_shape h1
     obtain ⟨t2,rfl⟩ := Value.isInt_shape h2
     refine wpAny_bind (wpAny_rule (wpAny_bind ?_))
     exact wpAny_lt_int (wpAny_bind (wpAny_pure (wpAny_pure (wpAny_pure h))))
 ·rintro ⟨r1,r2⟩ s' ⟨hr,rfl,x',y',xs',ys',hz,hx',hy',hdec,hlen⟩
  subst hr
  refine wpAny_pure ?_
  have hfin : decide (xs.size < ys.size) = lexL x y := by
   rw [← hdec,← hlen]
   cases hx' with
   | nil =>
    cases hy' with
    | nil => rfl
    | cons _ _ => exact decide_eq_true (Nat.succ_pos _)
   | cons _ _ =>
    cases hy' with
    | nil => rfl
    | cons _ _ => cases hz
  show P (.done (.ret (.bool (decide (xs.size < ys.size))))) s'
  rw [hfin]; exact h
theorem tup_lt {x y : List Int} {a b : Addr} {Q : Bool → Shared → Prop} (hu : A.units < cLine) (hx : IsTupleKey (intKind prog w) s.heap x a) (hy : IsTupleKey (intKind prog w) s.heap y b) (h : Q (lexL x y) s) : wpAny (model prog w) A (keyLt' oneType' (.ref a) (.ref b)) Q E s := by
 rw [keyLt'_oneType,oneLt'_eq,if_pos rfl]
 refine wpAny_bind (wpAny_cRoomFor_or (.inr hu) (wpAny_bind (wpAny_callSpecialIfBound?_slot hx.typeIs PySem.F.slot_tuple_lt (wpAny_call_entry PySem.F.slot_tuple_lt hx.typeIs PySem.F.entry_tuple_lt (tup_lt_tree hx hy ⟨_,rfl,?_⟩) (PySem.F.args_tuple_lt_2 _ _)))))
 exact wpAny_truthy_bool h
theorem mapM_any {α β : Type} {f : α → Sem β} : ∀ (l : List α) {Q : List β → Shared → Prop},(∀ v ∈ l,∀ (Q' : β → Shared → Prop),(∀ b,Q' b s) → wpAny (model prog w) A (f v) Q' E s) → (∀ bs,Q bs s) → wpAny (model prog w) A (l.mapM f) Q E s
 | [],Q,_,h => by rw [List.mapM_nil]; exact wpAny_pure (h [])
 | v :: l,Q,hf,h => by
  rw [List.mapM_cons]
  exact wpAny_bind (hf v List.mem_cons_self _ fun b => wpAny_bind (mapM_any l (fun v hv => hf v (List.mem_cons_of_mem _ hv)) fun bs => wpAny_pure (h _)))
theorem kind_tup {vs : List Value} {ks : List (List Int)} {Q : SortKind → Shared → Prop} (hk : ∀ (i : Nat) v,vs[i]? = some v → ∃ (a : Addr) (k : List Int),v = Value.ref a ∧ ks[i]? = some k ∧ IsTupleKey (intKind prog w) s.heap k a) (h0 : ks[0]? = some []) (hl : 0 < vs.length) (h : Q oneType' s) : wpAny (model prog w) A (keyKind' vs.toArray) Q E s := by
 cases vs with
 | nil => exact absurd hl (Nat.lt_irrefl 0)
 | cons v r =>
  have ty : ∀ v' ∈ v :: r,Looks (model prog w) s.heap (typeOf v') (.type "tuple") := fun v' hv => by
   refine byG fun G9 k9 => ?_
   obtain ⟨i,hi⟩ := List.getElem?_of_mem hv
   obtain ⟨a,k,rfl,_,o,items,n,e,c,d,_⟩ := hk i v' hi
   refine k9 ?_
   clear k9 G9
   rw [← c]; exact (Looks.ld e).andThen .now
  have nx : ∀ v' ∈ r,∀ (Q' : Option Value → Shared → Prop),(∀ b,Q' b s) → wpAny (model prog w) A (firstOfTuple' v') Q' E s := fun v' hv Q' q => by
   refine byG fun G9 k9 => ?_
   obtain ⟨i,hi⟩ := List.getElem?_of_mem (List.mem_cons_of_mem v hv)
   obtain ⟨a,k,rfl,_,o,items,n,e,c,d,_⟩ := hk i v' hi
   refine k9 ?_
   clear k9 G9
   rw [kas_first_eq]
   refine wpAny_bind ((ty _ (List.mem_cons_of_mem _ hv)).here ?_)
   rw [if_neg (by decide)]
   exact wpAny_bind (listItems_at e d (wpAny_pure (q _)))
  refine byG fun G9 k9 => ?_
  obtain ⟨a,k,hv,hk0,o,items,n,e,c,d,it⟩ := hk 0 v rfl
  refine k9 ?_
  clear k9 G9
  rw [h0] at hk0
  obtain rfl := Option.some.inj hk0
  have hit : items[0]? = none := by
   rw [← Array.getElem?_toList]
   cases it' : items.toList with
   | nil => rfl
   | cons x l => rw [it'] at it; cases it
  rw [kat_kind_eq,List.mapM_toArray,map_eq_pure_bind,List.mapM_cons]
  refine wpAny_bind (wpAny_bind (wpAny_bind ?_))
  rw [kas_first_eq]
  refine wpAny_bind ((ty v List.mem_cons_self).here ?_)
  rw [if_neg (by decide)]
  subst hv
  refine wpAny_bind (listItems_at e d (wpAny_pure ?_))
  rw [hit]
  refine wpAny_bind (mapM_any r nx fun bs => wpAny_pure (wpAny_pure ?_))
  rw [if_neg (by rw [List.all_toArray]; exact Bool.false_ne_true),if_neg (by exact Bool.false_ne_true)]
  rw [oneTypeOnly'_eq,List.mapM_toArray,map_eq_pure_bind]
  refine wpAny_bind (wpAny_bind (wpAny_bind (kas_mapM (r := .type "tuple") _ (fun v hv Q' hq => (ty v hv).here hq) (wpAny_pure ?_))))
  have hall : ((List.map (fun _ => Value.type "tuple") (Value.ref a :: r)).toArray.all fun x => x == Value.type "tuple") = true := by
   rw [List.all_toArray,List.all_map]
   exact List.all_eq_true.mpr fun _ _ => rfl
  show wpAny _ _ (pure (if ((List.map (fun _ => Value.type "tuple") (Value.ref a :: r)).toArray.all fun x => x == Value.type "tuple") = true then some (Value.type "tuple") else none)) _ _ _
  rw [if_pos hall]
  exact wpAny_pure (wpAny_pure h)
end
end
section
theorem sorted_eq {α : Type} {r : α → α → Prop} (as : ∀ a b,r a b → r b a → a = b) : ∀ {l m : List α},l.Perm m → l.Pairwise r → m.Pairwise r → l = m
 | [],m,p,_,_ => (List.nil_perm.mp p).symm
 | a :: l,[],p,_,_ => absurd (List.perm_nil.mp p) (List.cons_ne_nil _ _)
 | a :: l,b :: m,p,h,k => by
  have h' := List.pairwise_cons.mp h
  have k' := List.pairwise_cons.mp k
  have e : a = b := by
   rcases List.mem_cons.mp (p.mem_iff.mp List.mem_cons_self) with e | e
   ·exact e
   ·rcases List.mem_cons.mp (p.mem_iff.mpr List.mem_cons_self) with e2 | e2
    ·exact e2.symm
    ·exact as _ _ (h'.1 b e2) (k'.1 a e)
  subst e
  rw [sorted_eq as (List.perm_cons a |>.mp p) h'.2 k'.2]
theorem sort_ex : ∀ l : List (List Int),l.Nodup → ∃ m : List (List Int),m.Perm l ∧ m.Pairwise fun x y => lexL x y = true
 | [],_ => ⟨[],.nil,.nil⟩
 | a :: l,h => by
  obtain ⟨m,p,s⟩ := sort_ex l (List.nodup_cons.mp h).2
  have na : a ∉ m := fun q => (List.nodup_cons.mp h).1 (p.mem_iff.mp q)
  have ins : ∀ m : List (List Int),a ∉ m → m.Pairwise (fun x y => lexL x y = true) → ∃ m' : List (List Int),m'.Perm (a :: m) ∧ m'.Pairwise fun x y => lexL x y = true := by
   intro m
   induction m with
   | nil => exact fun _ _ => ⟨[a],.refl _,List.pairwise_singleton ..⟩
   | cons b m ih =>
    intro hn hs
    obtain ⟨hb,hs'⟩ := List.pairwise_cons.mp hs
    cases c : lexL a b with
    | true => exact ⟨a :: b :: m,.refl _,List.pairwise_cons.mpr ⟨fun y hy => (List.mem_cons.mp hy).elim (fun e => e ▸ c) fun hy => lexL_tr c (hb y hy),hs⟩⟩
    | false =>
     obtain ⟨m',p',s'⟩ := ih (fun q => hn (List.mem_cons_of_mem _ q)) hs'
     refine ⟨b :: m',(p'.cons b).trans (.swap a b m),List.pairwise_cons.mpr ⟨fun y hy => (List.mem_cons.mp (p'.mem_iff.mp hy)).elim (fun e => e ▸ lexL_to (fun e => hn (e ▸ List.mem_cons_self)) c) (hb y),s'⟩⟩
  obtain ⟨m',p',s'⟩ := ins m na s
  exact ⟨m',p'.trans (p.cons a),s'⟩
theorem map_getD {α : Type} {l : List α} {d : α} : (List.range l.length).map (fun i => l.getD i d) = l := List.ext_getElem? fun i => by
 rw [List.getElem?_map]
 rcases Nat.lt_or_ge i l.length with h | h
 ·rw [List.getElem?_range h,List.getElem?_eq_getElem h]
  exact congrArg some (show l.getD i d = l[i] by rw [List.getD_eq_getElem?_getD,List.getElem?_eq_getElem h]; rfl)
 ·rw [List.getElem?_eq_none (by rw [List.length_range]; exact h),List.getElem?_eq_none h]; rfl
theorem getD_some {α : Type} {l : List α} {d x : α} {i : Nat} (h : l[i]? = some x) : l.getD i d = x := by rw [List.getD_eq_getElem?_getD,h]; rfl
section
variable {prog : Program} {w : World} {A : Around} {E : Value → Shared → Prop} {s : Shared}
theorem sort_rows {a : Addr} {vs : List Value} {ks : List (List Int)} {n : Nat} {P : PySem.Fin → Shared → Prop} (hu : A.units < cLine) (ho : s.heap.get? a = some (seqObj "list" vs.toArray n))
  (hl : vs.length = ks.length) (hk : ∀ (i : Nat) v,vs[i]? = some v → ∃ (b : Addr) (k : List Int),v = Value.ref b ∧ ks[i]? = some k ∧ IsTupleKey (intKind prog w) s.heap k b) (h0 : ks[0]? = some []) (hn : ks.Nodup) (h64 : vs.length < 64)
  (h : ∀ p : List Nat,p.Perm (List.range ks.length) → (p.map fun i => ks.getD i []).Pairwise (fun x y => lexL x y = true) → P (.done (.ret .none)) { s with heap := sortedHeap s.heap a vs (p.map fun i => vs.getD i .none).toArray }) :
  wpAny (model prog w) A (Builtin.«list.sort» ⟨[.ref a],[]⟩) P E s := by
 rw [list_sort_plain]
 have ha : a < s.heap.objs.size := Heap.lt_size ho
 refine wpAny_bind (listItems_at ho rfl (wpAny_bind (listUpdate_at ho rfl ?_)))
 obtain ⟨e1,ho1⟩ : ∃ e1,(s.heap.update a (Obj.mapSeq fun _ => #[])).get? a = some (seqObj "list" #[] e1) := ⟨_,get?_update_seq ho (fun _ => #[])⟩
 refine wpAny_bind (seqEpoch_at ho1 rfl (wpAny_bind (wpAny_newTuple (wpAny_bind (wpAny_newList (wpAny_holding ?_))))))
 have hsz : vs.toArray.size = vs.length := List.size_toArray ..
 have ho6 : (((s.heap.update a (Obj.mapSeq fun _ => #[])).push (seqObj "tuple" vs.toArray 0)).push (seqObj "list" #[] 0)).get? a = some (seqObj "list" #[] e1) := Heap.get?_push_of_some _ (Heap.get?_push_of_some _ ho1)
 show wpAny (model prog w) A _ P E { s with heap := ((s.heap.update a (Obj.mapSeq fun _ => #[])).push (seqObj "tuple" vs.toArray 0)).push (seqObj "list" #[] 0) }
 dsimp only
 have tail : ∀ (st : SortSt) (p : List Nat),(arrOf st).map (·.2) = (p.map fun i => vs.getD i .none).toArray → failedOf st = none → p.Perm (List.range ks.length) → (p.map fun i => ks.getD i []).Pairwise (fun x y => lexL x y = true) → wpAny (model prog w) A (do
   let touched := (← seqEpoch a) != e1
   Builtin.List.listUpdate (.ref a) fun _ => (arrOf st).map (·.2)
   if let some e := failedOf st then rule "list.sort.comparison-raised"; throw e
   if touched then rule "list.sort.modified"; raiseError "ValueError" "list modified during sort"
   ret .none) P E { s with heap := ((s.heap.update a (Obj.mapSeq fun _ => #[])).push (seqObj "tuple" vs.toArray 0)).push (seqObj "list" #[] 0) } := fun st p e1 e2 hp hs => by
  rw [e1,e2]
  refine wpAny_bind (seqEpoch_at ho6 rfl (wpAny_bind (listUpdate_at ho6 rfl ?_ (Nat.zero_le _) ?_)))
  ·rw [bne_self_eq_false]
   exact wpAny_pure (h p hp hs)
  ·rw [List.size_toArray,List.length_map,hp.length_eq,List.length_range,← hl,sizeLine_eq]
   exact Nat.le_trans (Nat.le_of_lt h64) (by decide)
 by_cases h2 : vs.toArray.size < 2
 ·rw [if_pos h2,if_pos h2]
  refine wpAny_bind (wpAny_pure ?_)
  rw [StateT.run_pure]
  refine wpAny_bind (wpAny_pure ?_)
  rw [hsz] at h2
  refine tail _ (List.range ks.length) ?_ rfl (.refl _) ?_
  ·show (vs.toArray.zip vs.toArray).map (·.2) = _
   apply Array.toList_inj.mp
   rw [Array.toList_map,ksk_zip,← hl]
   exact (List.map_snd_zip (Nat.le_refl _)).trans map_getD.symm
  ·rw [map_getD]
   rw [hl] at h2
   cases ks with
   | nil => exact .nil
   | cons k ks => cases ks with
    | nil => exact List.pairwise_singleton ..
    | cons k' ks => exact absurd h2 (Nat.not_lt.mpr (Nat.le_add_left 2 _))
 ·rw [if_neg h2,if_neg h2]
  rw [hsz] at h2
  have hp0 : 0 < vs.length := Nat.lt_of_lt_of_le (by decide) (Nat.le_of_not_lt h2)
  have keep : TupKeep s.heap (((s.heap.update a (Obj.mapSeq fun _ => #[])).push (seqObj "tuple" vs.toArray 0)).push (seqObj "list" #[] 0)) := fun b o _ _ e c _ => Heap.get?_push_of_some _ (Heap.get?_push_of_some _ ((Heap.get?_update_ne _ _ _ _ fun q => absurd (Value.type.inj (c.symm.trans (congrArg Obj.cls (get_eq (q ▸ ho) e)))) (by decide)).trans e))
  generalize hH : ((s.heap.update a (Obj.mapSeq fun _ => #[])).push (seqObj "tuple" vs.toArray 0)).push (seqObj "list" #[] 0) = H at keep ho6 tail
  have hk' : ∀ (i : Nat) v,vs[i]? = some v → ∃ (b : Addr) (k : List Int),v = Value.ref b ∧ ks[i]? = some k ∧ IsTupleKey (intKind prog w) H k b := fun i v e => by
   refine byG fun G9 k9 => ?_
   obtain ⟨b,k,e1,e2,o,items,n,e3,c,d,r⟩ := hk i v e
   refine k9 ?_
   clear k9 G9
   exact ⟨b,k,e1,e2,o,items,n,keep b o _ _ e3 c d,c,d,r⟩
  refine wpAny_bind (kind_tup hk' h0 hp0 ?_)
  have O : OrdN (fun i j => lexL (ks.getD i []) (ks.getD j [])) vs.length := ⟨lexL_tr,fun {i j} hi hj hij => lexL_to fun e => hij ((List.getElem_inj (h₀ := hl ▸ hi) (h₁ := hl ▸ hj) hn).mp (by
   rw [List.getD_eq_getElem?_getD,List.getElem?_eq_getElem (hl ▸ hi),List.getD_eq_getElem?_getD,List.getElem?_eq_getElem (hl ▸ hj)] at e
   exact e))⟩
  have run := kat_run (prog := prog) (w := w) (A := A) (E := E) (κ := oneType') (vs := vs) (ks := vs) (Q := fun st' s'' => ∃ p : Array Nat,arrOf st' = p.map (kas_item (vs.toArray.zip vs.toArray)) ∧ failedOf st' = none ∧ s'' = { s with heap := H } ∧ Pm vs.length p ∧ Up' (fun i j => lexL (ks.getD i []) (ks.getD j [])) p vs.length) (G := fun p s'' => s'' = { s with heap := H } ∧ Pm vs.length p ∧ Up' (fun i j => lexL (ks.getD i []) (ks.getD j [])) p vs.length) rfl (Nat.le_of_not_lt h2) h64 (fun p st' s'' a1 a2 a3 a4 => ⟨p,a2,a3,a4⟩) (s := { s with heap := H })
   (KOk.wp (I := fun s'' => s'' = { s with heap := H }) (fun i j C s'' hi hj e hC => by
    subst e
    refine byG fun G9 k9 => ?_
    obtain ⟨b,k,e1,e2,K⟩ := hk' i _ (List.getElem?_eq_getElem hi)
    obtain ⟨b',k',e1',e2',K'⟩ := hk' j _ (List.getElem?_eq_getElem hj)
    refine k9 ?_
    clear k9 G9
    show wpAny _ _ (keyLt' oneType' (vs.getD i .none) (vs.getD j .none)) _ _ _
    rw [getD_some (List.getElem?_eq_getElem hi),getD_some (List.getElem?_eq_getElem hj),e1,e1']
    refine tup_lt hu K K' ?_
    have := hC _ rfl
    rw [getD_some e2,getD_some e2'] at this
    exact this) (fun p s'' e q => ⟨e,q⟩) rfl (sort_ok O hp0))
  refine wpAny_bind (wpAny_mono run ?_ fun _ _ x => x)
  rintro ⟨⟨⟩,st'⟩ s'' ⟨p,har,hf,rfl,pm,up⟩
  refine tail st' p.toList (kat_snds rfl har) hf (hl ▸ pm.pm.toList) ?_
  rw [List.pairwise_map,List.pairwise_iff_getElem]
  intro i j hi hj hij
  have hj' : j < vs.length := pm.size ▸ (Array.length_toList (xs := p) ▸ hj)
  have := up.all O hij hj'
  unfold Ah at this
  rw [getD_l hi,getD_l hj] at this
  exact this
end
end
section
section
variable {prog : Program} {w : World} {A : Around} {E : Value → Shared → Prop} {s : Shared} {lo : Nat}
theorem sorted_src {T : String} {r d : Addr} {n : Nat} {P : Nat → Value → Prop} {OK : Heap → Prop} {Q : Value → Shared → Prop} (K : KdlSrc prog w T r d n P OK) (hh : A.handled = none) (m : OK s.heap) (hn : n ≤ 1000)
  (h : ∀ (vs : List Value) s' a,Kp lo s s' → vs.length = n → (∀ (j : Nat) v,vs[j]? = some v → P j v) → s.heap.get? a = none → s'.heap.get? a = some (seqObj "list" vs.toArray 0) → wpAny (model prog w) A.in1.in1 (Builtin.«list.sort» ⟨[.ref a],[]⟩) (fun fin s'' => ∃ r,fin = .done (.ret r) ∧ Q (.ref a) s'') E s') : wpAny (model prog w) A (call (.builtin "sorted") [.ref r]) Q E s := by
 have hz : n ≤ sizeLine := by rw [sizeLine_eq]; exact Nat.le_trans hn (by decide)
 refine Calls.call_function_entry kind_sorted plain_sorted entry_sorted (args_sorted1 _) ?_
 unfold Builtin.«sorted»
 refine wpAny_bind (m := checkCount "sorted" 1 1 _) (wpAny_pure (wpAny_bind (collectS K (A := A.in1) hh m hz fun h' tk acc hk hi => ?_)))
 have hl : acc.toList.length = n := Array.length_toList.trans hi.1
 refine wpAny_bind (wpAny_newList ?_ (by rw [hl]; exact hz))
 have k : Kp lo s { s with heap := h'.push (seqObj "list" acc.toList.toArray 0),toks := tk } := Kp.of_keep fun b o e => Heap.get?_push_of_some _ (hk b o e)
 have ho : (h'.push (seqObj "list" acc.toList.toArray 0)).get? h'.objs.size = some (seqObj "list" acc.toList.toArray 0) := Heap.get?_push_size _ rfl
 have hN : s.heap.get? h'.objs.size = none := by
  cases e : s.heap.get? h'.objs.size with
  | none => rfl
  | some o => have := hk _ o e; rw [get_none_size] at this; cases this
 refine wpAny_bind (wpAny_holding (wpAny_call_entry slot_list_sort ⟨_,ho,rfl⟩ entry_list_sort (wpAny_mono (h _ _ _ k hl (fun j v e => hi.2 j v (by rw [← Array.getElem?_toList]; exact e)) hN ho) (fun fin s'' ⟨r,e,q⟩ => ⟨r,e,wpAny_pure ⟨_,rfl,q⟩⟩) fun _ _ x => x) (args_list_sort _)))
theorem sorted_kp {s' : Shared} {a : Addr} {vs : List Value} {out : Array Value} (k : Kp lo s s') (hn : s.heap.get? a = none) (e : s'.heap.get? a = some (seqObj "list" vs.toArray 0)) : Kp lo s { s' with heap := sortedHeap s'.heap a vs out } ∧ ∃ n,(sortedHeap s'.heap a vs out).get? a = some (lobj out.toList n) := by
 obtain ⟨n,e2⟩ := sortedHeap_at (out := out) e
 refine ⟨⟨fun b o q => ?_,k.os,k.gens⟩,n,?_⟩
 ·obtain ⟨o',e',l⟩ := k.heap b o q
  exact ⟨o',(sortedHeap_old (fun x => by rw [x,hn] at q; cases q) (Heap.lt_size e')).trans e',l⟩
 ·unfold lobj; rw [Array.toArray_toList]; exact e2
theorem sorted_tup {h : Heap} {a : Addr} {vs : List Value} {out : Array Value} (e : h.get? a = some (seqObj "list" vs.toArray 0)) : TupKeep h (sortedHeap h a vs out) := fun b o _ _ q c _ =>
 (sortedHeap_old (fun x => absurd (Value.type.inj (c.symm.trans (congrArg Obj.cls (get_eq (x ▸ e) q)))) (by decide)) (Heap.lt_size q)).trans q
end
section
variable {P : Pr} {E : StE}
theorem ints_of {C : Cx} : ∀ {vs : List Value} {ns : List Int},vs.length = ns.length → (∀ (j : Nat) v,vs[j]? = some v → ∃ c t,ns[j]? = some c ∧ v = .int c t) → IntsAre vs ns
 | [],[],_,_ => .nil
 | [],_ :: _,h,_ => by cases h
 | _ :: _,[],h,_ => by cases h
 | v :: vs,c :: ns,h,k => by
  obtain ⟨c',t,e,rfl⟩ := k 0 v rfl
  obtain rfl := Option.some.inj e
  exact .cons _ t (ints_of (C := C) (Nat.succ.inj h) fun j v e => k (j + 1) v e)
theorem ints_rds {h : Heap} {lv : Addr → Prop} {vs : List Value} {ns : List Int} (x : IntsAre vs ns) : Rds h lv vs (ns.map .int) := by
 induction x with
 | nil => exact .nil
 | cons _ _ _ ih => exact .cons rd_int ih
theorem tab_keys {ad : List Ad} {tr : List (Int × Nat)} {kvs : List (Int × Value)} (x : All2 (TabR ad) tr kvs) : tr.map (·.1) = kvs.map (·.1) := by
 induction x with
 | nil => rfl
 | cons r _ ih => rw [List.map_cons,List.map_cons,r.1,ih]
theorem r_sortI {e : Expr} {p pos : Pos} {T : TS} {fin : Bool} {i : Nat} {n : PNd} {l : List Int} (hu : P.un = true) (hT : E "" = some (.tr T fin)) (he : Ex P E e (.tab i)) (hn : T.T[i]? = some n) (hs : noStar e = true) (hg : isGl P.names "sorted" = true) (hz : n.tr.length < 64) (hp : l.Perm (n.tr.map (·.1))) (hl : l.Pairwise (· ≤ ·)) : Ex P E (.Call (.Name "sorted" p) [e] [] pos) (.dat (.list (l.map .int))) := fun f z s ok S Q X q => by
 refine call_bn ok S hg rfl rfl (by decide) keep_builtin (by rw [List.all_cons,hs]; rfl) (args_one hs (he f z s ok S _ _ fun w s1 k1 r1 => ⟨(S.kp k1).on,?_⟩))
 have S1 := S.kp k1
 refine byG fun G9 k9 => ?_
 obtain ⟨a,kvs,rfl,ha,hd,al,hsys⟩ := (S1.er _ _ hT).tree.tab hn r1
 obtain ⟨ep,hA⟩ := hd.dictAt
 refine k9 ?_
 clear k9 G9
 have hlen := al.length
 refine sorted_src (lo := P.C.lo) (kdl_dict hsys) (ok.un hu) hA (by rw [← hlen]; exact Nat.le_trans (Nat.le_of_lt hz) (by decide)) fun vs s2 b k2 hvl hv hb e2 => ?_
 refine list_sort_tree e2 (ints_of (C := P.C) (ns := kvs.map (·.1)) (by rw [hvl,List.length_map]) fun j v e => ?_) (by rw [hvl,← hlen]; exact hz) fun out ns' hI hp' hs' => ⟨_,rfl,?_⟩
 ·obtain ⟨c,x,h1,h2⟩ := hv j v e
  obtain ⟨t,rfl⟩ := intKey_inv (C := P.C) h2
  exact ⟨c,t,by rw [List.getElem?_map,h1]; rfl,rfl⟩
 ·obtain ⟨k3,m,e3⟩ := sorted_kp (out := out) k2 hb e2
  have hk := tab_keys al
  have : ns' = l := sorted_eq (fun a b => Int.le_antisymm) (hp'.trans (hk ▸ hp.symm)) hs' hl
  subst this
  refine q _ _ (k1.trans k3) (Rd.list ⟨_,e3,rfl,m,rfl⟩ (ints_rds hI) fun l => ?_)
  obtain ⟨o,e⟩ := S1.lt' b l
  exact none_some (hb.symm.trans e)
theorem r_sortD {e : Expr} {p pos : Pos} {D : List (List Int × V)} {l : List (List Int)} (hu : P.un = true) (he : Dx P E e D) (hs : noStar e = true) (hg : isGl P.names "sorted" = true) (hz : D.length < 64) (h0 : (D.map (·.1))[0]? = some []) (hnd : (D.map (·.1)).Nodup) (hp : l.Perm (D.map (·.1))) (hl : l.Pairwise fun x y => lexL x y = true) : Ex P E (.Call (.Name "sorted" p) [e] [] pos) (.dat (lT l)) := fun f z s ok S Q X q => by
 refine call_bn ok S hg rfl rfl (by decide) keep_builtin (by rw [List.all_cons,hs]; rfl) (args_one hs (he f z s ok S _ _ fun a o s1 k1 lo e x => ⟨(S.kp k1).on,?_⟩))
 have S1 := S.kp k1
 refine byG fun G9 k9 => ?_
 obtain ⟨es,ep,ys,m,hes,hk,al⟩ := x.ent e
 refine k9 ?_
 clear k9 G9
 have hlen : es.size = D.length := by rw [al.length,← Array.length_toList,hes,List.length_map]
 refine sorted_src (lo := P.C.lo) (srcD (not_sys lo)) (ok.un hu) m (by rw [hlen]; exact Nat.le_trans (Nat.le_of_lt hz) (by decide)) fun vs s2 b k2 hvl hv hb e2' => ?_
 have keys : ∀ (i : Nat) v,vs[i]? = some v → ∃ (b : Addr) (k : List Int),v = Value.ref b ∧ (D.map (·.1))[i]? = some k ∧ IsTupleKey (intKind P.C.prog P.C.w) s2.heap k b := fun i v hi => by
  obtain ⟨en,he,rfl⟩ := hv i v hi
  rw [← Array.getElem?_toList,hes,List.getElem?_map] at he
  obtain ⟨y,hy,rfl⟩ := Option.map_eq_some_iff.mp he
  obtain ⟨p,hp,r⟩ := al.get hy
  exact ⟨y.2.1,p.1,rfl,by rw [List.getElem?_map,hp]; rfl,r.1 ▸ Key.keep (C := P.C) k2.tup (hk y (List.mem_of_getElem? hy))⟩
 refine sort_rows (show f.A.units + 1 + 1 < _ by have := S1.rm.units; omega) e2' (by rw [hvl,hlen,List.length_map]) keys h0 hnd (by rw [hvl,hlen]; exact hz) fun pm hpm hst => ⟨_,rfl,?_⟩
 obtain ⟨k3,m3,e3⟩ := sorted_kp (out := (pm.map fun i => vs.getD i .none).toArray) k2 hb e2'
 have hpd : (pm.map fun i => (D.map (·.1)).getD i []).Perm (D.map (·.1)) := by
  have := hpm.map fun i => (D.map (·.1)).getD i []
  rw [map_getD] at this
  exact this
 have : pm.map (fun i => (D.map (·.1)).getD i []) = l := sorted_eq (fun a b h k => by
  have := lexL_tr h k
  rw [lexL_irr] at this
  cases this) (hpd.trans hp.symm) hst hl
 subst this
 refine q _ _ (k1.trans k3) (Rd.list ⟨_,e3,rfl,m3,rfl⟩ (Rds.of ?_ fun i v d h1 h2 => ?_) fun l => ?_)
 ·rw [List.length_map,List.length_map,List.length_map]
 ·rw [List.getElem?_map,List.getElem?_map] at h2
  rw [List.getElem?_map] at h1
  obtain ⟨j,hj,rfl⟩ := Option.map_eq_some_iff.mp h1
  rw [hj] at h2
  obtain rfl := Option.some.inj h2
  have hjl : j < vs.length := by
   have := hpm.mem_iff.mp (List.mem_of_getElem? hj)
   rw [List.length_map] at this
   rw [hvl,hlen]; exact List.mem_range.mp this
  refine byG fun G9 k9 => ?_
  obtain ⟨b',k,e1,e2,K⟩ := keys j _ (List.getElem?_eq_getElem hjl)
  refine k9 ?_
  clear k9 G9
  rw [getD_some (List.getElem?_eq_getElem hjl),e1]
  show Rd _ _ _ (tI ((D.map (·.1)).getD j []))
  rw [getD_some e2]
  exact key_rd (C := P.C) (Key.keep (C := P.C) (sorted_tup e2') K)
 ·obtain ⟨o,e⟩ := S1.lt' b l
  exact none_some (hb.symm.trans e)
end
end
section
theorem lt20 {α : Type} {xs : List α} {n : Nat} (h : xs.length ≤ n) (hn : n < 2 ^ 20 := by decide) : xs.length < 2 ^ 20 := Nat.lt_of_le_of_lt h hn
theorem ap2 {α : Type} {xs ys : List α} {m n : Nat} (h : xs.length ≤ m) (k : ys.length ≤ n) (hn : m + n < 2 ^ 20 := by decide) : xs.length + ys.length < 2 ^ 20 := Nat.lt_of_le_of_lt (Nat.add_le_add h k) hn
theorem apL {α : Type} {xs ys : List α} {m n : Nat} (h : xs.length ≤ m) (k : ys.length ≤ n) : (xs ++ ys).length ≤ m + n := by rw [List.length_append]; exact Nat.add_le_add h k
theorem modN (n : Int) {b : Nat} (hb : 0 < b) : ∃ k : Nat,n % (b : Int) = k ∧ k < b := by
 have h1 := Int.emod_nonneg n (b := b) (Int.ne_of_gt (Int.ofNat_lt.mpr hb))
 have h2 := Int.emod_lt_of_pos n (b := b) (Int.ofNat_lt.mpr hb)
 exact ⟨(n % (b : Int)).toNat,(Int.toNat_of_nonneg h1).symm,(Int.toNat_lt h1).mpr h2⟩
theorem pow3 {j : Nat} (h : j ≤ 4) : 0 < (3 : Int) ^ j ∧ (3 : Int) ^ j < 2 ^ 63 :=
 (by decide : ∀ j,j < 5 → 0 < (3 : Int) ^ j ∧ (3 : Int) ^ j < 2 ^ 63) j (Nat.lt_succ_of_le h)
noncomputable def rowM (n f : Int) (m : Nat) : List Int := (List.range (n % ((m + 1 : Nat) : Int)).toNat).map fun j : Nat => f + n / ((m + 1 : Nat) : Int) / 3 ^ j % 3
theorem rowM_len {n f : Int} {m : Nat} : (rowM n f m).length ≤ m := by
 unfold rowM
 rw [List.length_map,List.length_range]
 obtain ⟨k,e,hk⟩ := modN n (b := m + 1) (Nat.succ_pos m)
 rw [e,Int.toNat_natCast]
 exact Nat.le_of_lt_succ hk
theorem fnRow {C : Cx} (h : Kn C) : ∃ fd,FnIs C 134 fd ["number","first","most"] (fBd 4) (fNm 4) ∧ ∀ a b c,bindArgs fd ⟨[a,b,c],[]⟩ = pure [(("number" : Str),a),(("first" : Str),b),(("most" : Str),c)] := ⟨_,h.fn rfl rfl rfl rfl rfl rfl rfl rfl rfl rfl rfl rfl rfl,fun _ _ _ => rfl⟩
theorem row_pure {C : Cx} (hC : Kn C) {R : Nat} {nm : Nm} {kd : Kd} (n f : Int) {m : Nat} (hm : m ≤ 4) : PureFn ⟨C,R + 1,nm,true,kd⟩ (.ref 134) [.dat (.int n),.dat (.int f),.dat (.int m)] (.dat (tI (rowM n f m))) := by
 obtain ⟨fd,hF,hbd⟩ := fnRow hC
 refine fn_run (kd := .law) (un := true) (vs := [.dat (.int n),.dat (.int f),.dat (.int m)]) hF hC.gb (fun ws hl => by obtain ⟨a,b,c,rfl⟩ := len3 hl; exact hbd a b c) rfl rfl ?_ hv_dat
 obtain ⟨k,hk,h2⟩ := modN n (b := m + 1) (Nat.succ_pos m)
 have hk4 : k ≤ 4 := Nat.le_trans (Nat.le_of_lt_succ h2) hm
 have hp : (0 : Int) < ((m + 1 : Nat) : Int) := Int.ofNat_lt.mpr (Nat.succ_pos m)
 have hq : ((m + 1 : Nat) : Int) < 2 ^ 63 := Int.ofNat_lt.mpr (Nat.lt_of_le_of_lt (Nat.succ_le_succ hm) (by decide : 5 < 2 ^ 63))
 have ml : ∀ {E : StE},E "most" = some (.val (.dat (.int m))) → ∀ {p1 p2 p3 p4},Ex (Pf C R 4) E (.BinOp (.Name "most" p1) .Add (.Constant (.int 1) p4 p2) p3) (.dat (.int ((m + 1 : Nat) : Int))) := fun e => r_bin (d_of (n_val (v := .dat (.int m)) e)) (d_of r_int) add_i
 refine W_s (WS_set (v := .dat (.int (n / ((m + 1 : Nat) : Int)))) rfl rfl (r_bin (d_of (n_val (v := .dat (.int n)) rfl)) (d_of (ml rfl)) (div_i hp hq)) fun _ => rfl) ?_
 have hl : ((List.range k).map fun j : Nat => PyData.int (f + n / ((m + 1 : Nat) : Int) / 3 ^ j % 3)).length ≤ 4 := by rw [List.length_map,List.length_range]; exact hk4
 refine W_cons (W_ret (ev_conv (r_tup (xs := (List.range k).map fun j : Nat => PyData.int (f + n / ((m + 1 : Nat) : Int) / 3 ^ j % 3)) (r_comp rfl ⟨rfl,rg_nat (b := k) rfl (rg_1 (xd_conv (d_of (r_bin (d_of (n_val (v := .dat (.int n)) rfl)) (d_of (ml rfl)) (mod_i hp))) (congrArg PyData.int hk)) rfl rfl) (Nat.le_trans hk4 (by decide)),cr_map rfl rfl (fun j hj => ?_),lt20 hl⟩) rfl rfl (decide_eq_true (lt20 hl))) ?_) rfl)
 ·have hj4 : j ≤ 4 := Nat.le_trans (Nat.le_of_lt (List.mem_range.mp hj)) hk4
  obtain ⟨p1,p2⟩ := pow3 hj4
  exact r_bin (d_of (n_val (v := .dat (.int f)) rfl)) (d_of (r_bin (d_of (r_bin (d_of (n_val (v := .dat (.int (n / ((m + 1 : Nat) : Int)))) rfl)) (d_of (r_bin (c := .int (3 ^ j)) (d_of r_int) (d_of (n_val (v := .dat (.int (j : Int))) rfl)) (pow_i (by decide) (Int.natCast_nonneg j) (Int.ofNat_le.mpr (Nat.le_trans hj4 (by decide : 4 ≤ 100)))))) (div_i p1 p2))) (d_of r_int) (mod_i (by decide)))) add_i
 ·unfold rowM
  rw [hk]
  simp only [tI,List.map_map]
  rfl
theorem fnEnd {C : Cx} (h : Kn C) : ∃ fd,FnIs C 141 fd ["row","among"] (fBd 5) (fNm 5) ∧ ∀ a b,bindArgs fd ⟨[a,b],[]⟩ = pure [(("row" : Str),a),(("among" : Str),b)] := ⟨_,h.fn rfl rfl rfl rfl rfl rfl rfl rfl rfl rfl rfl rfl rfl,fun _ _ => rfl⟩
noncomputable def InV (v : V) (q : List Int → Bool) : Prop := ∀ {P : Pr} {E : StE} {k : List Int} {e : Expr} {p1 p2 : Pos},Ex P E e (.dat (tI k)) → E "among" = some (.val v) → Xt P E (.Compare e [.In] [.Name "among" p1] p2) (q k)
theorem inv_set {l : List (List Int)} : InV (.set l) fun k => decide (k ∈ l) := fun h e => t_inS h (n_val e) rfl
theorem inv_dic {D : List (List Int × PyData)} : InV (.dic D) fun k => (D.lookup k).isSome := fun {_ _ _ _ p1 p2} h e => by
 have := t_inD (p := p2) (r := .Name "among" p1) h (dx_val (n_val e)) rfl
 rw [datD_look,Option.isSome_map] at this
 exact this
inductive LeI (q : List Int → Bool) (v : V) (row : List Int) (i : Nat) (E : StE) : Prop
 | mk (h : ∀ j,j < i → q (row.drop j) = false) (er : E "row" = some (.val (.dat (tI row)))) (ea : E "among" = some (.val v))
theorem lend_from {q : List Int → Bool} {row : List Int} : ∀ {i : Nat},i ≤ row.length → (∀ j,j < i → q (row.drop j) = false) → lend q row = lend q (row.drop i)
 | 0,_,_ => rfl
 | i + 1,hi,hj => by
  rw [lend_from (Nat.le_of_succ_le hi) fun j h => hj j (Nat.lt_succ_of_lt h),lend_tail (hj i (Nat.lt_succ_self i)),List.tail_drop]
theorem le_pure {C : Cx} (hC : Kn C) {R : Nat} {nm : Nm} {kd : Kd} (row : List Int) {q : List Int → Bool} {v : V} (hv : InV v q) (hr : row.length ≤ 1000) : PureFn ⟨C,R + 1,nm,true,kd⟩ (.ref 141) [.dat (tI row),v] (.dat (tI (lend q row))) := by
 obtain ⟨fd,hF,hbd⟩ := fnEnd hC
 refine fn_run (kd := .law) (un := true) (vs := [.dat (tI row),v]) hF hC.gb (fun ws hl => by obtain ⟨a,b,rfl⟩ := len2 hl; exact hbd a b) rfl rfl ?_ hv_dat
 have l20 : row.length < 2 ^ 20 := Nat.lt_of_le_of_lt hr (by decide)
 refine W_cons (WS_for (items := (List.range row.length).map fun i : Nat => PyData.int i) (LeI q v row) rfl (rg_nat (b := row.length) rfl (rg_1 (d_of (r_len (d_of (n_val (v := .dat (tI row)) rfl)) rfl rfl (len_tm l20))) rfl rfl) (Nat.le_trans hr (by decide))) ⟨fun j h => absurd h (Nat.not_lt_zero _),rfl,rfl⟩ (fun i d E hd ⟨hj,er,ea⟩ => ?_) fun E ⟨hj,er,ea⟩ => ?_)
 ·obtain ⟨hi,rfl⟩ := range_at hd
  have hs : ∀ {p1 p2 p3 p4},Ex (Pf C R 5) (setE E "start" (.val (.dat (.int (i : Int))))) (.Subscript (.Name "row" p1) (.Slice (some (.Name "start" p2)) none none p3) p4) (.dat (tI (row.drop i))) := r_from (d_of (n_val (v := .dat (tI row)) er)) (d_of (n_val (v := .dat (.int (i : Int))) rfl)) rfl l20
  refine ⟨_,rfl,W_cons (W_if (hv hs ea) ?_)⟩
  cases hm : q (row.drop i) with
  | true => exact W_cons (W_ret hs (congrArg (fun l => Fl.ret (.dat (tI l))) (by rw [lend_from (Nat.le_of_lt hi) hj,lend_self hm])))
  | false =>
   refine W_nil (W_nil ⟨fun j h => ?_,er,ea⟩)
   rcases Nat.lt_or_ge j i with q' | q'
   ·exact hj j q'
   ·rw [Nat.le_antisymm (Nat.le_of_lt_succ h) q']; exact hm
 ·rw [List.length_map,List.length_range] at hj
  refine W_cons (W_ret (v := .dat (tI [])) (r_tuple (ds := []) vs_nil rfl) (congrArg (fun l => Fl.ret (.dat (tI l))) (?_ : [] = _)))
  rw [lend_from (Nat.le_refl _) hj,List.drop_length]; rfl
end
section
theorem fnSp {C : Cx} (h : Kn C) : ∃ fd,FnIs C 148 fd ["state"] (fBd 6) (fNm 6) ∧ ∀ a,bindArgs fd ⟨[a],[]⟩ = pure [(("state" : Str),a)] := ⟨_,h.fn rfl rfl rfl rfl rfl rfl rfl rfl rfl rfl rfl rfl rfl,fun _ => rfl⟩
inductive SpI (W : List (List Int)) (T : TS) (x : List Int) (m : Nat) (E : StE) : Prop
 | mk (i : Nat) (y r : List Int) (h : W[i]? = some y) (l : y.length = m) (e : y ++ r = x) (et : E "" = some (.tr T true)) (es : E "state" = some (.val (.nd i))) (ep : E "spelled" = some (.val (.dat (tI r))))
theorem sp_rd {C : Cx} (hC : Kn C) {R : Nat} {nm : Nm} {kd : Kd} {ws W : List (List Int)} {T : TS} (F : FinI ws W T.T) {i : Nat} {x : List Int} (hx : W[i]? = some x) (hl : x.length ≤ 1000) : RdFn ⟨C,R + 1,nm,true,kd⟩ T (.ref 148) [.nd i] (.dat (tI x)) := by
 obtain ⟨fd,hF,hbd⟩ := fnSp hC
 refine rd_run (un := true) hF hC.gb (fun ws hl => by obtain ⟨a,rfl⟩ := len1 hl; exact hbd a) rfl rfl ?_
 refine W_s (WS_set rfl rfl (r_tuple (ds := []) vs_nil rfl) fun _ => rfl) ?_
 refine W_cons (WS_while (SpI W T x) x.length ⟨i,x,[],hx,rfl,List.append_nil _,rfl,rfl,rfl⟩ fun m E ⟨j,y,r,h,l,e,et,es,ep⟩ => ?_)
 obtain ⟨n,hn⟩ := F.pi.get h
 have S := F.pi.sta j y n h hn
 have tt : ∀ {b : Bool},n.par.isNone = b → ∀ {p1 p2 p3 p4 k},Xt ⟨C,R,fNm 6,true,.rd⟩ E (.Compare (.Attribute (.Name "state" p1) "parent" p2) [.IsNot] [.Constant .none k p3] p4) (!b) := fun q => q ▸ t_isNot et (r_slot (hC.sl (slot_par _)) et (n_val es) hn rfl) r_none (isV_ref n.par) rfl
 rcases List.eq_nil_or_concat y with rfl | ⟨u,c,rfl⟩
 ·exact .inl ⟨tt (by rw [S.rt rfl]),W_cons (W_ret (n_val ep) (by rw [← e]; rfl))⟩
 ·refine byG fun G9 k9 => ?_
  obtain ⟨e1,p,e2,e3⟩ := S.up u c (List.concat_eq_append ..)
  refine k9 ?_
  clear k9 G9
  rw [List.concat_eq_append] at l e
  rw [List.length_append] at l
  have el : u ++ c :: r = x := by rw [← e,List.append_assoc]; rfl
  refine .inr ⟨u.length,l.symm,tt (by rw [e2]),?_⟩
  refine W_s (WS_set (v := .dat (tI (c :: r))) rfl rfl (r_bin (d_of (r_tuple (ds := [.int c]) (vs_cons (r_slot (v := .dat (.int c)) (hC.sl (slot_sym _)) et (n_val es) hn (congrArg (some ∘ symN) e1)) rfl vs_nil) rfl)) (d_of (n_val ep)) (add_tI (xs := [c]) ?_)) fun _ => rfl) ?_
  ·have := congrArg List.length el
   rw [List.length_append,List.length_cons] at this
   rw [List.length_singleton]; omega
  refine W_s (WS_set (v := .nd p) rfl rfl (r_slot (hC.sl (slot_par _)) et (n_val (v := .nd j) es) hn (congrArg (some ∘ refN) e2)) fun _ => rfl) (W_nil ⟨p,u,c :: r,e3,rfl,el,et,rfl,rfl⟩)
end
section
noncomputable def wayQ (q : List Int → Bool) (row : List Int) (s : Int) : Bool := decide ((if (1 : Int) < (row.length : Int) then 1 else (row.length : Int)) < ((lend q (row ++ [s])).length : Int))
noncomputable def wayI (q : List Int → Bool) (row : List Int) (s : Int) : PyData := .tuple [.int s,tI (lend q (row ++ [s]))]
noncomputable def waysD (q : List Int → Bool) (signs row : List Int) : List PyData := (signs.filter (wayQ q row)).map (wayI q row)
noncomputable def toldD (ws : List (List Int)) (row : List Int) : List PyData := ((List.range row.length).filter fun j => decide (row.drop j ∈ ws)).map fun j => .tuple [tI (row.drop j),.int ((row.length : Int) - j)]
noncomputable def dueD (q : List Int → Bool) (ws : List (List Int)) (signs row : List Int) : PyData := .tuple [tI (lend q (row.drop 1)),.list (waysD q signs row),.tuple (toldD ws row)]
noncomputable def dueT (ws G : List (List Int)) (signs : List Int) : List (List Int × PyData) := G.map fun r => (r,dueD (fun k => decide (k ∈ G.reverse)) ws signs r)
theorem fnDue {C : Cx} (h : Kn C) : ∃ fd,FnIs C 153 fd ["words","begun","signs"] (fBd 7) (fNm 7) ∧ ∀ a b c,bindArgs fd ⟨[a,b,c],[]⟩ = pure [(("words" : Str),a),(("begun" : Str),b),(("signs" : Str),c)] := ⟨_,h.fn rfl rfl rfl rfl rfl rfl rfl rfl rfl rfl rfl rfl rfl,fun _ _ _ => rfl⟩
structure DuB (ws G : List (List Int)) (sg : List Int) (E : StE) : Prop where
 ew : E "words" = some (.val (.dat (lT ws)))
 eb : E "begun" = some (.val (.dat (lT G)))
 es : E "signs" = some (.val (.dat (.list (sg.map .int))))
 ek : E "known" = some (.val (.set G.reverse))
inductive DuI (ws G : List (List Int)) (sg : List Int) (i : Nat) (E : StE) : Prop
 | mk (b : DuB ws G sg E) (ed : E "due" = some (.dic (datD (dueT ws G sg |>.take i))))
inductive DuJ (ws G : List (List Int)) (sg row : List Int) (i j : Nat) (E : StE) : Prop
 | mk (b : DuB ws G sg E) (ed : E "due" = some (.dic (datD (dueT ws G sg |>.take i)))) (er : E "row" = some (.val (.dat (tI row)))) (ew : E "ways" = some (.live (waysD (fun k => decide (k ∈ G.reverse)) (sg.take j) row)))
theorem waysD_succ {q : List Int → Bool} {sg row : List Int} {j : Nat} {s : Int} (h : sg[j]? = some s) : waysD q (sg.take (j + 1)) row = waysD q (sg.take j) row ++ if wayQ q row s then [wayI q row s] else [] := by
 unfold waysD
 rw [List.take_succ,h,List.filter_append,List.map_append]
 congr 1
 show List.map _ (List.filter _ [s]) = _
 rw [List.filter_cons]
 split <;> rfl
theorem look_none {α : Type} {k : List Int} : ∀ {D : List (List Int × α)},k ∉ D.map (·.1) → D.lookup k = none
 | [],_ => rfl
 | p :: D,h => by
  rw [List.map_cons,List.mem_cons,not_or] at h
  rw [List.lookup_cons,beq_false_of_ne h.1]
  exact look_none h.2
theorem datD_keys {D : List (List Int × PyData)} : (datD D).map (·.1) = D.map (·.1) := by
 unfold datD
 rw [List.map_map]; rfl
theorem dueT_keys {ws G : List (List Int)} {sg : List Int} : (dueT ws G sg).map (·.1) = G := by
 unfold dueT
 rw [List.map_map]
 exact List.map_id' G
theorem fresh_at {α : Type} {l : List α} {i : Nat} {a : α} (nd : l.Nodup) (h : l[i]? = some a) : a ∉ l.take i := fun m => by
 obtain ⟨j,hj⟩ := List.getElem?_of_mem m
 have hl := (List.getElem?_eq_some_iff.mp hj).1
 rw [List.length_take] at hl
 have hji : j < i := Nat.lt_of_lt_of_le hl (Nat.min_le_left ..)
 rw [List.getElem?_take_of_lt hji] at hj
 exact Nat.ne_of_lt hji ((List.getElem?_inj (List.getElem?_eq_some_iff.mp hj).1 nd).mp (hj.trans h.symm))
theorem due_pure {C : Cx} (hC : Kn C) {R : Nat} {nm : Nm} {kd : Kd} {ws G : List (List Int)} {sg : List Int} (hG : G.length ≤ 18) (nd : G.Nodup) (hr : ∀ r ∈ G,r.length ≤ 100) (hs : sg.length ≤ 100) (hw : ws.length ≤ 100) : PureFn ⟨C,R + 1 + 1,nm,true,kd⟩ (.ref 153) [.dat (lT ws),.dat (lT G),.dat (.list (sg.map .int))] (.dic (dueT ws G sg)) := by
 obtain ⟨fd,hF,hbd⟩ := fnDue hC
 refine fn_run (kd := .rd) (un := true) (vs := [.dat (lT ws),.dat (lT G),.dat (.list (sg.map .int))]) hF hC.gb (fun ws hl => by obtain ⟨a,b,c,rfl⟩ := len3 hl; exact hbd a b c) rfl rfl ?_ hv_dic
 refine W_s (WS_set rfl rfl (r_setOf rfl (d_of (n_val (v := .dat (lT G)) rfl)) rfl rfl hG) fun _ => rfl) ?_
 refine W_s (WS_newD rfl rfl rfl) ?_
 refine W_cons (WS_for (items := G.map tI) (DuI ws G sg) rfl (it_val (d := lT G) rfl rfl (n_val rfl) rfl) ⟨⟨rfl,rfl,rfl,rfl⟩,rfl⟩ (fun i d E hd ⟨b,ed⟩ => ?_) fun E ⟨b,ed⟩ => ?_)
 ·obtain ⟨row,hi,rfl⟩ : ∃ row,G[i]? = some row ∧ tI row = d := by rw [List.getElem?_map] at hd; exact Option.map_eq_some_iff.mp hd
  have hm := List.mem_of_getElem? hi
  have hrl := hr row hm
  refine ⟨_,rfl,W_s (WS_new (xs := []) rfl rfl (l_list (ds := []) vs_nil rfl) fun _ => rfl) ?_⟩
  refine W_one (I := DuJ ws G sg row i sg.length) (WS_for (items := sg.map .int) (DuJ ws G sg row i) rfl (it_val (d := .list (sg.map .int)) rfl rfl (n_val b.es) rfl) ⟨⟨b.ew,b.eb,b.es,b.ek⟩,ed,rfl,rfl⟩ (fun j d E hd ⟨b,ed,er,ew⟩ => ?_) fun E hI => ⟨rfl,by rw [List.length_map] at hI; exact hI⟩) fun E ⟨b,ed,er,ew⟩ => ?_
  ·obtain ⟨n,hj,rfl⟩ : ∃ n,sg[j]? = some n ∧ PyData.int n = d := by rw [List.getElem?_map] at hd; exact Option.map_eq_some_iff.mp hd
   have l1 : (lend (fun k => decide (k ∈ G.reverse)) (row ++ [n])).length ≤ 101 := Nat.le_trans (lend_suffix _).length_le (by rw [List.length_append]; exact Nat.succ_le_succ hrl)
   refine ⟨_,rfl,W_s (WS_set (v := .dat (tI (lend (fun k => decide (k ∈ G.reverse)) (row ++ [n])))) rfl rfl (r_fn (le_pure hC (row ++ [n]) inv_set (Nat.le_trans (by rw [List.length_append]; exact Nat.succ_le_succ hrl) (by decide : 101 ≤ 1000))) (vs_cons (r_bin (d_of (n_val (v := .dat (tI row)) er)) (d_of (r_tuple (ds := [.int n]) (vs_cons (n_val (v := .dat (.int n)) rfl) rfl vs_nil) rfl)) (add_tI (ys := [n]) (ap2 hrl (Nat.le_refl 1)))) rfl (vs_cons (n_val b.ek) rfl vs_nil)) rfl (by rw [hC.K]; rfl) (by rw [hC.K]; rfl)) fun _ => rfl) ?_⟩
   have hb := waysD_succ (q := fun k => decide (k ∈ G.reverse)) (row := row) hj
   refine W_one (I := DuJ ws G sg row i (j + 1)) (W_if (t_cmp (b := wayQ (fun k => decide (k ∈ G.reverse)) row n) rfl (d_of (r_len (d_of (n_val rfl)) rfl rfl (len_tm (lt20 l1)))) (d_of (r_min (a := row.length) (b := 1) (d_of (r_len (d_of (n_val (v := .dat (tI row)) er)) rfl rfl (len_tm (lt20 hrl)))) (d_of r_int) rfl rfl rfl rfl)) cmp_gt) ?_) fun E hI => W_nil hI
   cases hq : wayQ (fun k => decide (k ∈ G.reverse)) row n with
   | false =>
    rw [hq] at hb
    exact W_nil ⟨rfl,⟨b.ew,b.eb,b.es,b.ek⟩,ed,er,ew.trans (by rw [hb]; exact congrArg (some ∘ Ent.live) (List.append_nil _).symm)⟩
   | true =>
    rw [hq] at hb
    refine W_s (WS_app (d := wayI (fun k => decide (k ∈ G.reverse)) row n) ew ?_ rfl rfl (r_tuple (ds := [.int n,tI (lend (fun k => decide (k ∈ G.reverse)) (row ++ [n]))]) (vs_cons (n_val (v := .dat (.int n)) rfl) rfl (vs_cons (n_val rfl) rfl vs_nil)) rfl)) (W_nil ⟨rfl,⟨b.ew,b.eb,b.es,b.ek⟩,ed,er,by rw [hb]; rfl⟩)
    unfold waysD
    rw [List.length_map]
    exact Nat.lt_of_le_of_lt (Nat.le_trans (List.length_filter_le _ _) (by rw [List.length_take]; exact Nat.le_trans (Nat.min_le_right ..) hs)) (by decide : 100 < 2 ^ 19)
  ·rw [List.take_length] at ew
   refine W_frz (fun x => x == ("ways" : Str)) ?_
   have fw := frz_live (p := fun x => x == ("ways" : Str)) ew rfl
   have b : DuB ws G sg (freezeP (fun x => x == ("ways" : Str)) E) := ⟨frz_val b.ew fun _ => Ent.noConfusion,frz_val b.eb fun _ => Ent.noConfusion,frz_val b.es fun _ => Ent.noConfusion,frz_val b.ek fun _ => Ent.noConfusion⟩
   have ed := frz_val (p := fun x => x == ("ways" : Str)) ed fun _ => Ent.noConfusion
   have er := frz_val (p := fun x => x == ("ways" : Str)) er fun _ => Ent.noConfusion
   generalize freezeP (fun x => x == ("ways" : Str)) E = E at b fw ed er
   have ht : (toldD ws row).length ≤ 100 := by
    unfold toldD
    rw [List.length_map]
    exact Nat.le_trans (List.length_filter_le _ _) (by rw [List.length_range]; exact hrl)
   refine W_s (WS_comp (en := .val (.dat (.list (toldD ws row)))) rfl rfl rfl ⟨rfl,rg_nat (b := row.length) rfl (rg_1 (d_of (r_len (d_of (n_val (v := .dat (tI row)) er)) rfl rfl (len_tm (lt20 hrl)))) rfl rfl) (Nat.le_trans hrl (by decide)),cr_filter (fun j : Nat => decide (row.drop j ∈ ws)) (ψ := fun j : Nat => .tuple [tI (row.drop j),.int ((row.length : Int) - j)]) rfl rfl (fun j hj => ?_) (fun j hj _ => ?_),lt20 ht⟩ (.inl rfl)) ?_
   ·have hj := List.mem_range.mp hj
    exact t_cmp rfl (d_of (r_from (j := j) (d_of (n_val (v := .dat (tI row)) (mask_val rfl er))) (d_of (n_val (v := .dat (.int (j : Int))) rfl)) rfl (lt20 hrl))) (d_of (n_val (v := .dat (lT ws)) (mask_val rfl b.ew))) (nice_tI.cmpIn' (by decide) (row.drop j) ws decide_eq_true_iff)
   ·exact r_tuple (ds := [tI (row.drop j),.int ((row.length : Int) - j)]) (vs_cons (r_from (j := j) (d_of (n_val (v := .dat (tI row)) (mask_val rfl er))) (d_of (n_val (v := .dat (.int (j : Int))) rfl)) rfl (lt20 hrl)) rfl (vs_cons (r_bin (d_of (r_len (d_of (n_val (v := .dat (tI row)) (mask_val rfl er))) rfl rfl (len_tm (lt20 hrl)))) (d_of (n_val (v := .dat (.int (j : Int))) rfl)) sub_i) rfl vs_nil)) rfl
   ·refine W_s (WS_setD (k := row) (v := .dat (dueD (fun k => decide (k ∈ G.reverse)) ws sg row)) ed (n_val er) (r_tuple (ds := [tI (lend (fun k => decide (k ∈ G.reverse)) (row.drop 1)),.list (waysD (fun k => decide (k ∈ G.reverse)) sg row),.tuple (toldD ws row)]) (vs_cons (r_fn (le_pure hC (row.drop 1) inv_set ?_) (vs_cons (r_from (j := 1) (d_of (n_val (v := .dat (tI row)) er)) (d_of r_int) rfl (lt20 hrl)) rfl (vs_cons (n_val b.ek) rfl vs_nil)) rfl (by rw [hC.K]; rfl) (by rw [hC.K]; rfl)) rfl (vs_cons (n_val fw) rfl (vs_cons (r_tup (xs := toldD ws row) (d_of (n_val rfl)) rfl rfl (decide_eq_true (lt20 ht))) rfl vs_nil))) rfl) ?_ ?_) (W_nil ⟨⟨b.ew,b.eb,b.es,b.ek⟩,?_⟩)
    ·exact Nat.le_trans (by rw [List.length_drop]; exact Nat.le_trans (Nat.sub_le _ _) hrl) (by decide : 100 ≤ 1000)
    ·refine look_none fun h => ?_
     rw [datD_keys,List.map_take,dueT_keys] at h
     exact fresh_at nd hi h
    ·show (List.map _ _).length ≤ _
     rw [List.length_map,List.length_take]
     exact Nat.le_trans (Nat.min_le_right ..) (by unfold dueT; rw [List.length_map]; exact Nat.le_trans hG (by decide))
    ·have e1 : (dueT ws G sg)[i]? = some (row,dueD (fun k => decide (k ∈ G.reverse)) ws sg row) := by unfold dueT; rw [List.getElem?_map,hi]; rfl
     rw [List.take_succ,e1]
     exact congrArg (some ∘ Ent.dic) (show datD _ ++ [_] = datD _ by unfold datD; rw [List.map_append]; rfl)
 ·rw [List.length_map,List.take_of_length_le (by unfold dueT; rw [List.length_map]; exact Nat.le_refl _)] at ed
  exact W_frzD ed (W_cons (W_ret (n_val rfl) rfl))
end
section
section
variable {ws W : List (List Int)} {T : List PNd} {X : List (List Int × Nat)} {stk : List (List Int)} {x : List Int} {i k : Nat}
structure Rch (W : List (List Int)) (T : List PNd) (X : List (List Int × Nat)) (stk : List (List Int)) (x : List Int) (k : Nat) : Prop where
 z : X[0]? = some ([],0)
 at_ : ∀ p ∈ X,W[p.2]? = some p.1
 nd : (X.map (·.1)).Nodup
 sub : ∀ y ∈ stk,y ∈ X.map (·.1)
 cl : ∀ p ∈ X,p.1 ∈ stk ∨ ∀ n,T[p.2]? = some n → ∀ e ∈ (if p.1 = x then n.tr.take k else n.tr),e.2 ∈ X.map (·.2)
theorem Rch.len (R : Rch W T X stk x k) : X.length ≤ W.length := by
 have := R.nd.length_le_of_subset (l₂ := W) fun y h => by
  obtain ⟨p,hp,rfl⟩ := List.mem_map.mp h
  exact List.mem_of_getElem? (R.at_ p hp)
 rwa [List.length_map] at this
theorem Rch.init (h : WOk W) : Rch W T [([],0)] [[]] x k :=
 ⟨rfl,fun p hp => by rw [List.mem_singleton.mp hp]; exact h.z,List.nodup_cons.mpr ⟨List.not_mem_nil,List.nodup_nil⟩,fun y hy => hy,fun p hp => .inl (by rw [List.mem_singleton.mp hp]; exact List.mem_cons_self)⟩
theorem Rch.pop {y : List Int} {m : Nat} (R : Rch W T X (stk ++ [x]) y m) (hm : ∀ p ∈ X,∀ n,p.1 = y → T[p.2]? = some n → n.tr.take m = n.tr) : Rch W T X stk x 0 :=
 ⟨R.z,R.at_,R.nd,fun y hy => R.sub y (List.mem_append_left _ hy),fun p hp => by
  by_cases e : p.1 = x
  ·exact .inr fun n hn a ha => by rw [if_pos e,List.take_zero] at ha; cases ha
  ·refine (R.cl p hp).imp (fun h => (List.mem_append.mp h).elim id fun h => absurd (List.mem_singleton.mp h) e) fun h n hn a ha => ?_
   rw [if_neg e] at ha
   refine h n hn a ?_
   by_cases e : p.1 = y
   ·rw [if_pos e,hm p hp n e hn]; exact ha
   ·rw [if_neg e]; exact ha⟩
theorem Rch.old {n : PNd} {c : Int} {j : Nat} (R : Rch W T X stk x k) (h : WOk W) (hi : W[i]? = some x) (hn : T[i]? = some n) (hk : n.tr[k]? = some (c,j)) (hj : j ∈ X.map (·.2)) : Rch W T X stk x (k + 1) :=
 ⟨R.z,R.at_,R.nd,R.sub,fun p hp => (R.cl p hp).imp id fun q m hm a ha => by
  by_cases e : p.1 = x
  ·have : p.2 = i := h.inj (e ▸ R.at_ p hp) hi
   rw [this] at hm
   rw [some_eq hm hn,if_pos e,List.take_succ,hk] at ha
   rcases List.mem_append.mp ha with ha | ha
   ·exact q n (this ▸ hn) a (by rw [if_pos e]; exact ha)
   ·rw [List.mem_singleton.mp ha]; exact hj
  ·rw [if_neg e] at ha
   exact q m hm a (by rw [if_neg e]; exact ha)⟩
theorem Rch.put {w : List Int} {j : Nat} (R : Rch W T X stk x k) (hj : W[j]? = some w) (hw : w ∉ X.map (·.1)) : Rch W T (X ++ [(w,j)]) (stk ++ [w]) x k := by
 have up : ∀ {a},a ∈ X.map (·.2) → a ∈ (X ++ [(w,j)]).map (·.2) := fun h => by rw [List.map_append]; exact List.mem_append_left _ h
 have up1 : ∀ {a},a ∈ X.map (·.1) → a ∈ (X ++ [(w,j)]).map (·.1) := fun h => by rw [List.map_append]; exact List.mem_append_left _ h
 refine ⟨?_,fun p hp => ?_,?_,fun y hy => ?_,fun p hp => ?_⟩
 ·rw [List.getElem?_append_left (List.getElem?_eq_some_iff.mp R.z).1]; exact R.z
 ·rcases List.mem_append.mp hp with h | h
  ·exact R.at_ p h
  ·rw [List.mem_singleton.mp h]; exact hj
 ·rw [List.map_append]
  exact List.nodup_append.mpr ⟨R.nd,List.nodup_cons.mpr ⟨List.not_mem_nil,List.nodup_nil⟩,fun a ha b hb e => hw (by
   have hb : b = w := List.mem_singleton.mp hb
   rw [← hb,← e]; exact ha)⟩
 ·rcases List.mem_append.mp hy with h | h
  ·exact up1 (R.sub y h)
  ·rw [List.mem_singleton.mp h,List.map_append]; exact List.mem_append_right _ List.mem_cons_self
 ·rcases List.mem_append.mp hp with h | h
  ·exact (R.cl p h).imp (List.mem_append_left _) fun q n hn a ha => up (q n hn a ha)
  ·exact .inl (by rw [List.mem_singleton.mp h]; exact List.mem_append_right _ List.mem_cons_self)
theorem Rch.all (R : Rch W T X [] x k) (F : FinI ws W T) (hk : ∀ p ∈ X,∀ n,p.1 = x → T[p.2]? = some n → n.tr.take k = n.tr) (m : Nat) (w : List Int) (e : w.length = m) (hw : w ∈ W) : w ∈ X.map (·.1) := by
 induction m generalizing w with
 | zero =>
  rw [List.eq_nil_of_length_eq_zero e]
  exact List.mem_map.mpr ⟨_,List.mem_of_getElem? R.z,rfl⟩
 | succ m ih =>
  refine byG fun G9 k9 => ?_
  obtain ⟨u,c,q⟩ := (List.eq_nil_or_concat w).resolve_left (List.ne_nil_of_length_eq_add_one e)
  rw [List.concat_eq_append] at q
  rw [q] at hw
  rw [q,lenc] at e
  obtain ⟨p,hp,ep⟩ := List.mem_map.mp (ih u (Nat.succ.inj e) (F.ok.pre u c hw))
  have hi := R.at_ p hp
  obtain ⟨n,hn⟩ := F.pi.get hi
  obtain ⟨j,hj⟩ := List.getElem?_of_mem hw
  have es : le W (p.1 ++ [c]) = u ++ [c] := by rw [show p.1 = u from ep]; exact le_self hw
  have hl := lookI_mem (((F.pi.done p.2 p.1 n hi hn).tr.at_ c j).mpr ⟨hj.trans (congrArg some es.symm),by rw [es,← show p.1 = u from ep,lenc]; exact Nat.min_le_right ..⟩)
  obtain ⟨q',hq,e2⟩ := List.mem_map.mp (((R.cl p hp).resolve_left List.not_mem_nil) n hn (c,j) (by
   by_cases q : p.1 = x
   ·rw [if_pos q,hk p hp n q hn]; exact hl
   ·rw [if_neg q]; exact hl))
  refine k9 (List.mem_map.mpr ⟨q',hq,?_⟩)
  have h1 := R.at_ q' hq
  rw [e2] at h1
  exact (some_eq h1 hj).trans q.symm
theorem Rch.perm {G : List (List Int)} (R : Rch W T X [] x k) (F : FinI ws W T) (hk : ∀ p ∈ X,∀ n,p.1 = x → T[p.2]? = some n → n.tr.take k = n.tr) (nd : G.Nodup) (hG : ∀ y,y ∈ G ↔ y ∈ W) : (X.map (·.1)).Perm G :=
 (List.perm_ext_iff_of_nodup R.nd nd).mpr fun y => by
  rw [hG]
  refine ⟨fun h => ?_,fun h => R.all F hk _ y rfl h⟩
  obtain ⟨p,hp,rfl⟩ := List.mem_map.mp h
  exact List.mem_of_getElem? (R.at_ p hp)
end
theorem nodup_sorted {l : List Int} (h : l.Pairwise (· < ·)) : l.Nodup := h.imp fun h => Int.ne_of_lt h
theorem keys_way {ws W : List (List Int)} {T : List PNd} (F : FinI ws W T) {G : List (List Int)} (hG : ∀ y,y ∈ G ↔ y ∈ W) {i : Nat} {w : List Int} {n : PNd} (hi : W[i]? = some w) (hn : T[i]? = some n) {sg : List Int} (hs : ∀ u ∈ W,∀ c ∈ u,c ∈ sg) (nd : sg.Nodup) :
  (sg.filter fun c => decide (min 2 (w.length + 1) ≤ (lend (fun k => decide (k ∈ G.reverse)) (w ++ [c])).length)).Perm (n.tr.map (·.1)) ∧ ∀ c,min 2 (w.length + 1) ≤ (lend (fun k => decide (k ∈ G.reverse)) (w ++ [c])).length → ∃ j,lookI c n.tr = some j ∧ W[j]? = some (lend (fun k => decide (k ∈ G.reverse)) (w ++ [c])) := by
 have hq : (fun k => decide (k ∈ G.reverse)) = inW W := funext fun k => by
  unfold inW
  exact decide_eq_decide.mpr (List.mem_reverse.trans (hG k))
 rw [hq]
 have tr := (F.pi.done i w n hi hn).tr
 have h2 : ∀ c,min 2 (w.length + 1) ≤ (le W (w ++ [c])).length → ∃ j,lookI c n.tr = some j ∧ W[j]? = some (le W (w ++ [c])) := fun c h => by
  have hm : le W (w ++ [c]) ∈ W := (lend_ok (p := inW W) (w ++ [c])).elim (fun e => by
   show lend (inW W) (w ++ [c]) ∈ W
   rw [e]; exact List.mem_of_getElem? F.ok.z) of_decide_eq_true
  obtain ⟨j,hj⟩ := List.getElem?_of_mem hm
  exact ⟨j,(tr.at_ c j).mpr ⟨hj,h⟩,hj⟩
 refine ⟨(List.perm_ext_iff_of_nodup (nd.filter _) tr.nd).mpr fun c => ?_,h2⟩
 rw [List.mem_filter,List.mem_map]
 refine ⟨fun h => ?_,fun ⟨e,he,ec⟩ => ?_⟩
 ·obtain ⟨j,hj,_⟩ := h2 c (of_decide_eq_true h.2)
  exact ⟨_,lookI_mem hj,rfl⟩
 ·have := (tr.at_ c e.2).mp (lookI_of_mem tr.nd (by rw [← ec]; exact he))
  refine ⟨?_,decide_eq_true this.2⟩
  have hne : le W (w ++ [c]) ≠ [] := fun q => by
   have h := this.2
   rw [q] at h
   exact Nat.not_succ_le_zero _ (Nat.le_trans (Nat.le_min.mpr ⟨Nat.le_of_lt (Nat.lt_succ_self 1),Nat.succ_le_succ (Nat.zero_le _)⟩) h)
  obtain ⟨v,hv,_⟩ := lend_app1 hne
  exact hs _ (List.mem_of_getElem? this.1) c (by rw [hv]; exact List.mem_append_right _ List.mem_cons_self)
end
section
noncomputable def ndD (X : List (List Int × Nat)) : List (List Int × V) := X.map fun p => (p.1,.nd p.2)
theorem ndD_look {x : List Int} : ∀ {X : List (List Int × Nat)},(ndD X).lookup x = (X.lookup x).map .nd
 | [] => rfl
 | p :: X => by
  show List.lookup x ((p.1,V.nd p.2) :: ndD X) = _
  rw [List.lookup_cons,List.lookup_cons]
  cases x == p.1 with
  | true => rfl
  | false => exact ndD_look
theorem look_mem {x : List Int} {i : Nat} : ∀ {X : List (List Int × Nat)},X.lookup x = some i → (x,i) ∈ X
 | [],h => none_some h
 | p :: X,h => by
  rw [List.lookup_cons] at h
  by_cases e : x = p.1
  ·rw [e,beq_self_eq_true] at h
   obtain rfl := Option.some.inj h
   rw [e]; exact List.mem_cons_self
  ·rw [beq_false_of_ne e] at h
   exact List.mem_cons_of_mem _ (look_mem h)
theorem mem_look {x : List Int} : ∀ {X : List (List Int × Nat)},x ∈ X.map (·.1) → ∃ i,X.lookup x = some i
 | [],h => by cases h
 | p :: X,h => by
  rw [List.lookup_cons]
  by_cases e : x = p.1
  ·exact ⟨p.2,by rw [e,beq_self_eq_true]⟩
  ·rw [beq_false_of_ne e]
   rw [List.map_cons] at h
   exact mem_look ((List.mem_cons.mp h).resolve_left e)
structure MaB (T : TS) (D : List (List Int × PyData)) (X : List (List Int × Nat)) (stk : List (List Int)) (E : StE) : Prop where
 et : E "" = some (.tr T true)
 ed : E "due" = some (.val (.dic D))
 es : E "states" = some (.dic (ndD X))
 ew : E "waiting" = some (.live (stk.map tI))
inductive MaO (W : List (List Int)) (T : TS) (D : List (List Int × PyData)) (m : Nat) (E : StE) : Prop
 | mk (X : List (List Int × Nat)) (stk : List (List Int)) (y : List Int) (k : Nat) (R : Rch W T.T X stk y k) (f : ∀ p ∈ X,∀ n,p.1 = y → T.T[p.2]? = some n → n.tr.take k = n.tr) (l : stk.length + (W.length - X.length) = m) (lm : m ≤ 61) (b : MaB T D X stk E)
inductive MaI (W : List (List Int)) (T : TS) (D : List (List Int × PyData)) (m : Nat) (x : List Int) (k : Nat) (E : StE) : Prop
 | mk (X : List (List Int × Nat)) (stk : List (List Int)) (R : Rch W T.T X stk x k) (l : stk.length + (W.length - X.length) = m) (lm : m ≤ 61) (b : MaB T D X stk E)
inductive MaE (W : List (List Int)) (T : TS) (D : List (List Int × PyData)) (E : StE) : Prop
 | mk (X : List (List Int × Nat)) (y : List Int) (k : Nat) (R : Rch W T.T X [] y k) (f : ∀ p ∈ X,∀ n,p.1 = y → T.T[p.2]? = some n → n.tr.take k = n.tr) (b : MaB T D X [] E)
theorem t_live {P : Pr} {E : StE} {x : Str} {p : Pos} {l : List PyData} (h : E x = some (.live l)) (hz : l.length < 2 ^ 20) : Xt P E (.Name x p) (!l.isEmpty) := fun f z s ok S Q X q =>
 isTrue_plain (live_name (e := .live l) ok S h trivial fun o e ⟨vs,n,eo,al⟩ => wpAny_truthy_list (l := z.pl x) (items := vs.toArray) ⟨o,e,by rw [eo]; rfl,n,by rw [eo]; rfl⟩ (by rw [List.size_toArray,al.length]; exact Int.ofNat_lt.mpr (Nat.lt_trans hz (by decide : 2 ^ 20 < 2 ^ 63))) (by
  have e2 : (!vs.toArray.isEmpty) = !l.isEmpty := by
   have := al.length
   cases vs with
   | nil => cases l with
    | nil => rfl
    | cons _ _ => cases this
   | cons _ _ => cases l with
    | nil => cases this
    | cons _ _ => rfl
  rw [e2]; exact q _ (Kp.of_keep fun _ _ e => e)))
theorem ma_A {C : Cx} (hC : Kn C) {R : Nat} {ws Wd : List (List Int)} {T : TS} {D : List (List Int × PyData)} (F : FinI ws Wd T.T) (hW : Wd.length ≤ 60) (hl : ∀ u ∈ Wd,u.length ≤ 1000) {E : StE} {Q : Fl → StE → Prop} (et : E "" = some (.tr T true)) (er : E "root" = some (.val (.nd 0))) (ed : E "due" = some (.val (.dic D)))
  (hQ : ∀ E X y k,Rch Wd T.T X [] y k → (∀ p ∈ X,∀ n,p.1 = y → T.T[p.2]? = some n → n.tr.take k = n.tr) → MaB T D X [] E → W ⟨C,R + 1,fNm 8,true,.rd⟩ E ((fBd 8).drop 3) Q) : W ⟨C,R + 1,fNm 8,true,.rd⟩ E (fBd 8) Q := by
 refine W_s (WS_dict1 (k := []) (j := 0) rfl rfl rfl (r_tuple (ds := []) vs_nil rfl) (n_val er)) ?_
 refine W_s (WS_new (xs := [tI []]) rfl rfl (l_list (ds := [tI []]) (vs_cons (r_tuple (ds := []) vs_nil rfl) rfl vs_nil) rfl) fun _ => rfl) ?_
 refine W_one (I := MaE Wd T D) (WS_while (MaO Wd T D) (1 + (Wd.length - 1)) ⟨[([],0)],[[]],[1],0,Rch.init F.ok,(fun p hp n e _ => by rw [List.mem_singleton.mp hp] at e; cases e),rfl,(by omega),et,ed,rfl,rfl⟩ fun m E ⟨X,stk,y,k,R,f,l,lm,b⟩ => ?_) fun E ⟨X,y,k,R,f,b⟩ => hQ E X y k R f b
 ·have h20 : stk.length < 2 ^ 19 := Nat.lt_of_le_of_lt (l ▸ Nat.le_add_right ..) (Nat.lt_of_le_of_lt lm (by decide))
  rcases List.eq_nil_or_concat stk with rfl | ⟨stk',x,rfl⟩
  ·exact .inl ⟨t_live b.ew (by decide),rfl,X,y,k,R,f,b⟩
  ·rw [List.concat_eq_append] at R l b h20
   obtain ⟨i,hi⟩ := mem_look (R.sub x (List.mem_append_right _ List.mem_cons_self))
   have hx := R.at_ _ (look_mem hi)
   obtain ⟨n,hn⟩ := F.pi.get hx
   have ew : E "waiting" = some (.live (stk'.map tI ++ [tI x])) := b.ew.trans (by rw [List.map_append]; rfl)
   rw [List.length_append] at l h20
   obtain ⟨m',hm'⟩ : ∃ m',stk'.length + (Wd.length - X.length) = m' := ⟨_,rfl⟩
   have lm' : m' ≤ 61 := by rw [← hm']; rw [List.length_singleton] at l; omega
   refine .inr ⟨m',?_,?_,?_⟩
   ·rw [← l,← hm',List.length_singleton]; omega
   ·have h1 : (!((stk' ++ [x]).map tI).isEmpty) = true := by rw [List.map_append]; cases stk'.map tI <;> rfl
    exact h1 ▸ t_live b.ew (by rw [List.length_map,List.length_append]; exact Nat.lt_trans h20 (by decide))
   refine W_one (I := MaI Wd T D m' x n.tr.length) (WS_forV (fin := true) rfl rfl (e_slot (hC.sl (slot_tr _)) (e_getD b.es (e_pop ew (by rw [List.length_map]; exact Nat.lt_of_succ_lt h20) rfl) b.es (ndD_look.trans (congrArg (Option.map V.nd) hi)) rfl) b.et hn rfl) b.et hn rfl rfl rfl (MaI Wd T D m' x) ⟨X,stk',R.pop f,hm',lm',b.et,b.ed,b.es,rfl⟩ (fun k E ⟨X,stk,R,l,_,b⟩ => ⟨T,true,b.et,rfl⟩) (fun k c j E htr ⟨X,stk,R,l,lm,b⟩ => ?_) fun E hI => ⟨rfl,hI⟩) fun E ⟨X,stk,R,l,lm,b⟩ => ?_
   ·have tr := (F.pi.done i x n hx hn).tr
    have hcj : (c,j) ∈ n.tr := List.mem_of_getElem? htr
    have hj := ((tr.at_ c j).mp (lookI_of_mem tr.nd hcj)).1
    obtain ⟨w,hw⟩ : ∃ w,Wd[j]? = some w := ⟨_,hj⟩
    clear hj
    have ex := R.len
    refine W_s (WS_set (v := .dat (tI w)) rfl rfl (r_rd (sp_rd hC F hw (hl w (List.mem_of_getElem? hw))) (.inr rfl) b.et (vs_cons (n_val rfl) rfl vs_nil) rfl (by rw [hC.K]; rfl) (by rw [hC.K]; rfl)) fun _ => rfl) ?_
    refine W_one (I := MaI Wd T D m' x (k + 1)) (W_if (t_notInD (n_val rfl) (dx_live b.es) rfl) ?_) fun E hI => W_nil hI
    have hXl : X.length ≤ 60 := Nat.le_trans ex hW
    rw [ndD_look,Option.isSome_map]
    cases hlk : X.lookup w with
    | some j' =>
     have hm := look_mem hlk
     have : j' = j := F.ok.inj (R.at_ _ hm) hw
     subst this
     exact W_nil ⟨rfl,X,stk,R.old F.ok hx hn htr (List.mem_map.mpr ⟨_,hm,rfl⟩),l,lm,b.et,b.ed,b.es,b.ew⟩
    | none =>
     have hnm : w ∉ X.map (·.1) := fun h => by
      obtain ⟨i,hi⟩ := mem_look h
      rw [hlk] at hi; cases hi
     have R2 := R.put hw hnm
     have ex2 := R2.len
     rw [List.length_append,List.length_singleton] at ex2
     refine W_s (WS_setD (k := w) (v := .nd j) b.es (n_val rfl) (n_val rfl) (ndD_look.trans (congrArg (Option.map V.nd) hlk)) (by unfold ndD; rw [List.length_map]; exact Nat.le_trans hXl (by decide))) ?_
     refine W_s (WS_app (d := tI w) b.ew ?_ rfl rfl (n_val rfl)) (W_nil ⟨rfl,X ++ [(w,j)],stk ++ [w],R2.old F.ok hx hn htr ?_,?_,lm,b.et,b.ed,?_,?_⟩)
     ·rw [List.length_map]; omega
     ·rw [List.map_append]; exact List.mem_append_right _ List.mem_cons_self
     ·rw [List.length_append,List.length_append,List.length_singleton,List.length_singleton]; omega
     ·exact congrArg (some ∘ Ent.dic) (show ndD X ++ [_] = ndD _ by unfold ndD; rw [List.map_append]; rfl)
     ·exact congrArg (some ∘ Ent.live) (by rw [List.map_append]; rfl)
   ·exact W_nil ⟨X,stk,x,n.tr.length,R,fun p hp n' e hn' => by
     have : p.2 = i := F.ok.inj (e ▸ R.at_ p hp) hx
     rw [this,hn] at hn'
     cases hn'
     exact List.take_length,l,lm,b⟩
end
section
noncomputable def toldH (ws : List (List Int)) (row : List Int) : List (List Int × Int) := ((List.range row.length).filter fun j => decide (row.drop j ∈ ws)).map fun j => (row.drop j,(row.length : Int) - j)
theorem toldD_eq {ws : List (List Int)} {row : List Int} : toldD ws row = (toldH ws row).map hI := by
 unfold toldD toldH
 rw [List.map_map]; rfl
theorem toldH_ends {ws : List (List Int)} {row : List Int} : (ends (qW ws) row).map (fun k => (k,(k.length : Int))) = toldH ws row := by
 unfold toldH
 rw [ends_range,List.map_map]
 have h : ∀ j ∈ List.range row.length,qW ws (row.drop j) = decide (row.drop j ∈ ws) := fun j hj => by
  have hj := List.mem_range.mp hj
  have : (row.drop j).isEmpty = false := List.isEmpty_eq_false_iff.mpr fun q => by
   have := congrArg List.length q
   rw [List.length_drop] at this
   exact absurd this (Nat.sub_ne_zero_of_lt hj)
  unfold qW
  rw [this]; exact Bool.and_true _
 rw [List.filter_congr h]
 refine List.map_congr_left fun j hj => ?_
 have hj := List.mem_range.mp (List.mem_filter.mp hj).1
 show (row.drop j,((row.drop j).length : Int)) = _
 rw [List.length_drop,Int.ofNat_sub (Nat.le_of_lt hj)]
theorem told_outs {ws : List (List Int)} {row : List Int} : outsD (ends (qW ws) row) = .tuple ((toldH ws row).map hI) := by
 rw [← toldH_ends,List.map_map]
 rfl
theorem wayQ_min {q : List Int → Bool} {row : List Int} {s : Int} : wayQ q row s = decide (min 2 (row.length + 1) ≤ (lend q (row ++ [s])).length) := by
 unfold wayQ
 refine decide_eq_decide.mpr ?_
 split <;> omega
theorem wayF {q : List Int → Bool} {row : List Int} : (fun c => decide (min 2 (row.length + 1) ≤ (lend q (row ++ [c])).length)) = wayQ q row := funext fun c => wayQ_min.symm
theorem dueT_look {row : List Int} {g : List Int → PyData} : ∀ {G : List (List Int)},row ∈ G → (G.map fun r => (r,g r)).lookup row = some (g row)
 | r :: G,h => by
  rw [List.map_cons,List.lookup_cons]
  by_cases e : row = r
  ·rw [e,beq_self_eq_true]
  ·rw [beq_false_of_ne e]
   exact dueT_look ((List.mem_cons.mp h).resolve_left e)
section
variable {P : Pr} {E : StE} {α : Type} {elt : Expr}
theorem cr_mapB {t : Expr} {φ ψ : α → PyData} {B : α → StE} (hb : ∀ a,bindE P t E (φ a) = some (B a)) (hs : ∀ a w e,E w = some e → B a w = some e) : ∀ {L : List α},(∀ a ∈ L,Ex P (B a) elt (.dat (ψ a))) → CompR P elt t [] E (L.map φ) (L.map ψ)
 | [],_ => .nil
 | a :: L,h => .last (hb a) (hs a) t_nil (h a List.mem_cons_self) (cr_mapB hb hs fun b hb => h b (List.mem_cons_of_mem _ hb))
theorem is_same (j : Nat) : IsV (.nd j) (.nd j) true := by
 have := IsV.nd j j
 rwa [decide_eq_true rfl] at this
end
inductive MbI (T : TS) (D : List (List Int × PyData)) (X : List (List Int × Nat)) (j : Nat) (tl : PyData) (E : StE) : Prop
 | mk (b : MaB T D X [] E) (s : E "state" = some (.val (.nd j))) (t : E "told" = some (.val (.dat tl)))
theorem ma_B {C : Cx} (hC : Kn C) {R : Nat} {ws Wd G : List (List Int)} {sg : List Int} {T : TS} {X : List (List Int × Nat)} (F : FinI ws Wd T.T) (hG : ∀ y,y ∈ G ↔ y ∈ Wd) (nd : G.Nodup) (h0 : G[0]? = some []) (hz : G.length < 60) (hss : sg.Pairwise (· < ·)) (hsl : sg.length ≤ 60) (hsg : ∀ u ∈ Wd,∀ c ∈ u,c ∈ sg)
  {y : List Int} {k : Nat} (Rc : Rch Wd T.T X [] y k) (f : ∀ p ∈ X,∀ n,p.1 = y → T.T[p.2]? = some n → n.tr.take k = n.tr) {E : StE} (b : MaB T (dueT ws G sg) X [] E) : W ⟨C,R + 1,fNm 8,true,.rd⟩ E ((fBd 8).drop 3) fun fl _ => fl = .ret (.dat (.bool true)) := by
 have hp := Rc.perm F f nd hG
 have hkX : (ndD X).map (·.1) = X.map (·.1) := by unfold ndD; rw [List.map_map]; rfl
 have hkD : (datD (dueT ws G sg)).map (·.1) = G := datD_keys.trans dueT_keys
 have at_ : ∀ {w : List Int} {j : Nat},Wd[j]? = some w → (ndD X).lookup w = some (.nd j) := fun {w j} hj => by
  obtain ⟨i,hi⟩ := mem_look (hp.mem_iff.mpr ((hG w).mpr (List.mem_of_getElem? hj)))
  have := F.ok.inj (Rc.at_ _ (look_mem hi)) hj
  rw [ndD_look,hi]
  exact congrArg (some ∘ V.nd) this
 obtain ⟨l,p,s⟩ := sort_ex G nd
 have hlX : (ndD X).length < 64 := by
  have := congrArg List.length hkX
  rw [List.length_map,hp.length_eq] at this
  rw [this]; exact Nat.lt_trans hz (by decide)
 have hlD : (datD (dueT ws G sg)).length < 64 := by
  have := congrArg List.length hkD
  rw [List.length_map] at this
  rw [this]; exact Nat.lt_trans hz (by decide)
 refine W_cons (W_if (t_cmp (b := false) rfl (d_of (r_sortD (l := l) rfl (dx_live b.es) rfl rfl hlX (by rw [hkX,List.getElem?_map,Rc.z]; rfl) (by rw [hkX]; exact Rc.nd) (by rw [hkX]; exact p.trans hp.symm) s)) (d_of (r_sortD (l := l) rfl (dx_val (n_val b.ed)) rfl rfl hlD (by rw [hkD]; exact h0) (by rw [hkD]; exact nd) (by rw [hkD]; exact p) s)) ?_) (W_nil ?_))
 ·rw [nice_lT.cmpNe (by decide),decide_eq_true rfl]; rfl
 refine W_cons (WS_for (items := (dueT ws G sg).map fun p => tI p.1) (fun _ E => MaB T (dueT ws G sg) X [] E) rfl (it_dic rfl rfl (n_val b.ed)) b (fun i d E hd b => ?_) fun E b => W_cons (W_ret r_bool rfl))
 rw [List.getElem?_map] at hd
 obtain ⟨⟨row,dd⟩,h2,rfl⟩ := Option.map_eq_some_iff.mp hd
 have hm : row ∈ G := by
  rw [← dueT_keys (ws := ws) (G := G) (sg := sg)]
  exact List.mem_map.mpr ⟨_,List.mem_of_getElem? h2,rfl⟩
 clear hd h2
 refine byG fun G9 k9 => ?_
 obtain ⟨j,hj⟩ := List.getElem?_of_mem ((hG row).mp hm)
 obtain ⟨n,hn⟩ := F.pi.get hj
 obtain ⟨hw1,hw2⟩ := keys_way F hG hj hn hsg (nodup_sorted hss)
 have hq : (fun k => decide (k ∈ G.reverse)) = inW Wd := funext fun k => decide_eq_decide.mpr (List.mem_reverse.trans (hG k))
 have hlk : (datD (dueT ws G sg)).lookup row = some (.dat (dueD (fun k => decide (k ∈ G.reverse)) ws sg row)) := datD_look.trans (congrArg (Option.map V.dat) (dueT_look hm))
 obtain ⟨js,hjs,hjs2⟩ := (F.pi.done j row n hj hn).lss
 obtain ⟨row',n',ho1,ho2,ho3⟩ := F.out j row hj
 refine k9 ?_
 clear k9 G9
 rw [hj] at ho1
 cases ho1
 rw [hn] at ho2
 cases ho2
 refine ⟨_,rfl,W_s (WS_set (v := .nd j) rfl rfl (r_getD (dx_live b.es) (n_val rfl) (at_ hj) rfl) fun _ => rfl) ?_⟩
 refine W_s (WS_un3 (a := tI (lend (fun k => decide (k ∈ G.reverse)) (row.drop 1))) (b := .list (waysD (fun k => decide (k ∈ G.reverse)) sg row)) (c := .tuple (toldD ws row)) rfl (r_getD (dx_val (n_val b.ed)) (n_val rfl) hlk rfl) rfl rfl rfl rfl rfl rfl (fun _ => rfl) fun _ => rfl) ?_
 refine W_cons (W_if (t_isNot b.et (r_slot (v := .nd js) (hC.sl (slot_lss _)) b.et (n_val (v := .nd j) rfl) hn (congrArg (some ∘ refN) hjs)) (r_getD (v := .nd js) (dx_live b.es) (n_val rfl) (at_ ?_) rfl) (is_same js) rfl) (W_nil ?_))
 ·rw [hq,List.drop_one]; exact hjs2
 rw [wayF] at hw1
 have wl : (sg.filter (wayQ (fun k => decide (k ∈ G.reverse)) row)).length ≤ 60 := Nat.le_trans (List.length_filter_le _ _) hsl
 refine W_cons (W_if (t_cmp (b := false) rfl (d_of (r_sortI (l := sg.filter (wayQ (fun k => decide (k ∈ G.reverse)) row)) rfl b.et (r_slot (v := .tab j) (hC.sl (slot_tr _)) b.et (n_val (v := .nd j) rfl) hn rfl) hn rfl rfl (by
   have := hw1.length_eq
   rw [List.length_map] at this
   rw [← this]
   exact Nat.lt_of_le_of_lt wl (by decide)) hw1 ((hss.filter _).imp fun h => Int.le_of_lt h))) (d_of (r_compL rfl ⟨rfl,it_val (d := .list (waysD (fun k => decide (k ∈ G.reverse)) sg row)) rfl rfl (n_val rfl) rfl,cr_mapB (φ := wayI (fun k => decide (k ∈ G.reverse)) row) (ψ := PyData.int) (fun _ => rfl) (fun _ => sub_two rfl rfl) fun c _ => n_val rfl,?_⟩)) ?_) (W_nil ?_))
 ·rw [List.length_map]; exact Nat.lt_of_le_of_lt wl (by decide)
 ·rw [nice_lI.cmpNe (by decide),decide_eq_true rfl]; rfl
 refine W_one (I := MbI T (dueT ws G sg) X j (.tuple (toldD ws row))) (WS_for (items := waysD (fun k => decide (k ∈ G.reverse)) sg row) (fun _ => MbI T (dueT ws G sg) X j (.tuple (toldD ws row))) rfl (it_val (d := .list (waysD (fun k => decide (k ∈ G.reverse)) sg row)) rfl rfl (n_val rfl) rfl) ⟨⟨b.et,b.ed,b.es,b.ew⟩,rfl,rfl⟩ (fun i d E hd ⟨b,st,tl⟩ => ?_) fun E hI => ⟨rfl,hI⟩) fun E ⟨b,st,tl⟩ => ?_
 ·obtain ⟨c,hc,rfl⟩ := List.mem_map.mp (List.mem_of_getElem? hd)
  have hc := (List.mem_filter.mp hc).2
  rw [wayQ_min] at hc
  obtain ⟨j2,hl2,hj2⟩ := hw2 c (of_decide_eq_true hc)
  exact ⟨_,rfl,W_cons (W_if (t_isNot b.et (r_sub b.et (r_slot (v := .tab j) (hC.sl (slot_tr _)) b.et (n_val (v := .nd j) st) hn rfl) (n_val rfl) hn hl2 rfl) (r_getD (v := .nd j2) (dx_live b.es) (n_val rfl) (at_ hj2) rfl) (is_same j2) rfl) (W_nil (W_nil ⟨⟨b.et,b.ed,b.es,b.ew⟩,st,tl⟩)))⟩
 ·refine W_cons (W_if (t_cmp (b := false) rfl (d_of (r_slot (v := .dat (outsD (ends (qW ws) row))) (hC.sl (slot_outs _)) b.et (n_val (v := .nd j) st) hn (congrArg (Option.map fun l => V.dat (outsD l)) ho3))) (d_of (n_val tl)) ?_) (W_nil (W_nil b)))
  rw [told_outs,toldD_eq,nice_hI.tuple.cmpNe (by decide),decide_eq_true rfl]; rfl
theorem fnMa {C : Cx} (h : Kn C) : ∃ fd,FnIs C 158 fd ["root","due"] (fBd 8) (fNm 8) ∧ ∀ a b,bindArgs fd ⟨[a,b],[]⟩ = pure [(("root" : Str),a),(("due" : Str),b)] := ⟨_,h.fn rfl rfl rfl rfl rfl rfl rfl rfl rfl rfl rfl rfl rfl,fun _ _ => rfl⟩
theorem ma_rd {C : Cx} (hC : Kn C) {R : Nat} {nm : Nm} {kd : Kd} {ws Wd G : List (List Int)} {sg : List Int} {T : TS} (F : FinI ws Wd T.T) (hG : ∀ y,y ∈ G ↔ y ∈ Wd) (nd : G.Nodup) (h0 : G[0]? = some []) (hz : G.length < 60) (hl : ∀ u ∈ Wd,u.length ≤ 1000) (hss : sg.Pairwise (· < ·)) (hsl : sg.length ≤ 60) (hsg : ∀ u ∈ Wd,∀ c ∈ u,c ∈ sg) :
  RdFn ⟨C,R + 1 + 1,nm,true,kd⟩ T (.ref 158) [.nd 0,.dic (dueT ws G sg)] (.dat (.bool true)) := by
 obtain ⟨fd,hF,hbd⟩ := fnMa hC
 refine rd_run (un := true) hF hC.gb (fun ws hl => by obtain ⟨a,b,rfl⟩ := len2 hl; exact hbd a b) rfl rfl ?_
 have hW : Wd.length ≤ 60 := Nat.le_trans (F.ok.nd.length_le_of_subset fun y h => (hG y).mpr h) (Nat.le_of_lt hz)
 exact ma_A hC F hW hl rfl rfl rfl fun E X y k R f b => ma_B hC F hG nd h0 hz hss hsl hsg R f b
end
section
theorem qW_congr {ws vs : List (List Int)} (h : ∀ u,u ∈ ws ↔ u ∈ vs) : qW ws = qW vs := funext fun u => by
 unfold qW
 rw [decide_eq_decide.mpr (h u)]
theorem FinI.congr {ws vs W : List (List Int)} {T : List PNd} (F : FinI ws W T) (h : ∀ u,u ∈ ws ↔ u ∈ vs) : FinI vs W T :=
 ⟨F.ok,fun y => (F.mem y).trans (or_congr Iff.rfl (exists_congr fun k => and_congr (h k) Iff.rfl)),qW_congr h ▸ F.pi,qW_congr h ▸ F.out⟩
noncomputable def fndAt (ws : List (List Int)) (q : List Int → Bool) (t : List Int) (e : Nat) : List (List Int × Int) :=
 (ends (qW ws) (lend q ((t.take (e + 1)).drop (e + 1 - 4)))).map fun k => (k,(e : Int) + 1 - k.length)
theorem fnd_hits {ws : List (List Int)} {q : List Int → Bool} {t : List Int} (h4 : ∀ u,q u = true → u.length ≤ 4) (hq : ∀ u,qW ws u = true → q u = true) {e : Nat} (he : e < t.length) : fndAt ws q t e = hitsAt (qW ws) t e := by
 have hl : (t.take (e + 1)).length = e + 1 := by rw [List.length_take]; exact Nat.min_eq_left he
 have e1 : lend q ((t.take (e + 1)).drop (e + 1 - 4)) = lend q (t.take (e + 1)) := by
  have := lend_last h4 (t.take (e + 1))
  rwa [hl] at this
 unfold fndAt
 rw [e1,ends_lend hq,ends_hits he]
structure Bgn (ws : List (List Int)) (S : List Int → Prop) (G : List (List Int)) : Prop where
 z : G[0]? = some []
 nd : G.Nodup
 mem : ∀ y,y ∈ G ↔ S y
 sub : ∀ y ∈ G,y = [] ∨ ∃ w ∈ ws,y <+: w
theorem Bgn.init {ws : List (List Int)} {S : List Int → Prop} (h : ∀ y,S y ↔ y = []) : Bgn ws S [[]] :=
 ⟨rfl,List.nodup_cons.mpr ⟨List.not_mem_nil,List.nodup_nil⟩,fun y => List.mem_singleton.trans (h y).symm,fun y hy => .inl (List.mem_singleton.mp hy)⟩
theorem Bgn.old {ws G : List (List Int)} {S S' : List Int → Prop} (B : Bgn ws S G) (h : ∀ y,S' y ↔ S y) : Bgn ws S' G := ⟨B.z,B.nd,fun y => (B.mem y).trans (h y).symm,B.sub⟩
theorem Bgn.put {ws G : List (List Int)} {S S' : List Int → Prop} {u w : List Int} (B : Bgn ws S G) (hu : u ∉ G) (hw : w ∈ ws) (hp : u <+: w) (h : ∀ y,S' y ↔ S y ∨ y = u) : Bgn ws S' (G ++ [u]) := by
 refine ⟨?_,List.nodup_append.mpr ⟨B.nd,List.nodup_cons.mpr ⟨List.not_mem_nil,List.nodup_nil⟩,fun a ha b hb e => hu ?_⟩,fun y => ?_,fun y hy => ?_⟩
 ·rw [List.getElem?_append_left (List.getElem?_eq_some_iff.mp B.z).1]; exact B.z
 ·rw [← List.mem_singleton.mp hb,← e]; exact ha
 ·rw [List.mem_append,List.mem_singleton,h,B.mem]
 ·rcases List.mem_append.mp hy with h | h
  ·exact B.sub y h
  ·rw [List.mem_singleton.mp h]; exact .inr ⟨w,hw,hp⟩
noncomputable def begs (ws : List (List Int)) : List (List Int) := [] :: ws.flatMap fun w => (List.range w.length).map fun k => w.take (k + 1)
theorem begs_mem {ws : List (List Int)} {y w : List Int} (hw : w ∈ ws) (h : y <+: w) : y ∈ begs ws := by
 have e := List.prefix_iff_eq_take.mp h
 cases y with
 | nil => exact List.mem_cons_self
 | cons a y =>
  refine List.mem_cons_of_mem _ (List.mem_flatMap.mpr ⟨w,hw,List.mem_map.mpr ⟨y.length,List.mem_range.mpr h.length_le,e.symm⟩⟩)
theorem begs_len {ws : List (List Int)} : (begs ws).length = 1 + (ws.map List.length).sum := by
 unfold begs
 rw [List.length_cons,List.length_flatMap,Nat.add_comm]
 congr 2
 exact List.map_congr_left fun w _ => by rw [List.length_map,List.length_range]
theorem Bgn.len {ws G : List (List Int)} {S : List Int → Prop} (B : Bgn ws S G) : G.length ≤ 1 + (ws.map List.length).sum := by
 rw [← begs_len]
 refine B.nd.length_le_of_subset fun y h => ?_
 rcases B.sub y h with rfl | ⟨w,hw,hp⟩
 ·exact List.mem_cons_self
 ·exact begs_mem hw hp
end
section
theorem r_rev {P : Pr} {E : StE} {v e : Expr} {p q : Pos} {xs : List PyData} (hv : Xd P E v (.list xs)) (he : Xd P E e (.int (-1))) (hf : xs.length < 2 ^ 20) : Ex P E (.Subscript v (.Slice none none (some e) p) q) (.dat (.list xs.reverse)) := fun f z s ok S Q X k => by
 refine Subscript_ (hv f z s ok S _ _ fun vo s1 k1 ro => ?_)
 refine wpAny_Slice (wpAny_pure (wpAny_pure (he f z s1 ok (S.kp k1) _ _ fun vk s2 k2 pk => ?_)))
 have kp : Kp P.C.lo s2 { s2 with heap := s2.heap.push { cls := .type "slice",data := .fields #[.none,.none,vk] } } := Kp.push'
 have k13 := (k1.trans k2).trans kp
 have hev := ev_rev_list (C := P.C) (A := f.A) (S.kp k13).lt' (ro.kp (k2.trans kp)) (decide_eq_true hf) rfl isSlice_of_push (Rd.int_inv pk)
 obtain ⟨b,vs,rfl,hl,_⟩ := ro.kp (k2.trans kp)
 exact tail_any (ops := [_,_]) hl.typeIs slot_list_getitem.lookup (hev Q X fun w s4 k4 => k w s4 (k13.trans k4)) rfl
noncomputable abbrev P3 (C : Cx) : Pr := ⟨C,40,fNm 9,true,.law⟩
theorem get_at {w : List (List Int)} {j : Nat} (h : j < w.length) : w[j]? = some (w.getD j []) := by rw [List.getD_eq_getElem?_getD,List.getElem?_eq_getElem h]; rfl
structure Ws3 (f : Int) (ws td : List (List Int)) (t : List Int) : Prop where
 l4 : ws.length = 4
 w4 : ∀ u ∈ ws,u.length ≤ 4
 sg : ∀ u ∈ ws,∀ c ∈ u,c ∈ [f,f + 1,f + 2]
 d8 : td.length = 8
 dm : ∀ u,u ∈ td ↔ u ∈ ws
 t20 : t.length ≤ 20
structure S3 (f : Int) (ws td : List (List Int)) (t : List Int) (E : StE) : Prop where
 fi : E "first" = some (.val (.dat (.int f)))
 wo : E "words" = some (.val (.dat (lT ws)))
 tu : E "turned" = some (.val (.dat (lT td)))
 te : E "text" = some (.val (.dat (tI t)))
theorem rowM_sg {n f : Int} {m : Nat} : ∀ c ∈ rowM n f m,c ∈ [f,f + 1,f + 2] := fun c hc => by
 obtain ⟨j,_,rfl⟩ := List.mem_map.mp hc
 obtain ⟨k,hk,h3⟩ := modN (n / ((m + 1 : Nat) : Int) / 3 ^ j) (b := 3) (by decide)
 have hk : n / ((m + 1 : Nat) : Int) / 3 ^ j % 3 = k := hk
 rw [hk]
 rcases k with _ | _ | _ | k
 ·exact List.mem_cons.mpr (.inl (Int.add_zero f))
 ·exact List.mem_cons_of_mem _ List.mem_cons_self
 ·exact List.mem_cons_of_mem _ (List.mem_cons_of_mem _ List.mem_cons_self)
 ·exact absurd h3 (by omega)
theorem law03_A {C : Cx} (hC : Kn C) (ns : List Int) (hns : ns.length ≤ 63) {Q : Fl → StE → Prop}
  (k : ∀ f ws td t E,Ws3 f ws td t → S3 f ws td t E → W (P3 C) E ((fBd 9).drop 8) Q) : W (P3 C) (initE ["script"] [.dat (lI ns)]) (fBd 9) Q := by
 refine W_s (WS_set (v := .dat (lI (ns.take 12 ++ ([7,83,229,1,13,2] : List Int).drop ns.length))) rfl rfl (ev_conv (r_bin (d_of (r_slice (lo := none) (d_of (n_val (x := "script") (v := .dat (lI ns)) rfl)) o_none (o_some (d_of r_int)) (slice_l (lt20 hns)))) (d_of (r_slice (hi := none) (d_of (r_list (ds := [7,83,229,1,13,2].map .int) (vs_cons r_int rfl (vs_cons r_int rfl (vs_cons r_int rfl (vs_cons r_int rfl (vs_cons r_int rfl (vs_cons r_int rfl vs_nil)))))) rfl)) (o_some (d_of (r_len (d_of (n_val (x := "script") (v := .dat (lI ns)) rfl)) rfl rfl (len_lm (lt20 hns))))) o_none (slice_l (by decide)))) (add_l ?_)) ?_) fun _ => rfl) ?_
 ·exact ap2 (m := 63) (n := 6) (Nat.le_trans sl_len hns) sl_len
 ·rw [sl_to (by decide),sl_from (Int.natCast_nonneg _),Int.toNat_natCast]; rfl
 have hN : 6 ≤ (ns.take 12 ++ [7,83,229,1,13,2].drop ns.length : List Int).length := by simp; omega
 have hN12 : (ns.take 12 ++ [7,83,229,1,13,2].drop ns.length : List Int).length ≤ 12 := by simp; omega
 have nu : setE (initE ["script"] [.dat (lI ns)]) "numbers" (.val (.dat (lI (ns.take 12 ++ [7,83,229,1,13,2].drop ns.length)))) "numbers" = some (.val (.dat (lI (ns.take 12 ++ [7,83,229,1,13,2].drop ns.length)))) := rfl
 generalize setE (initE ["script"] [.dat (lI ns)]) "numbers" _ = E at nu
 generalize (ns.take 12 ++ [7,83,229,1,13,2].drop ns.length : List Int) = N at *
 have itN : ∀ {E : StE} {q1 q2 q3 : Pos} {k : Nat} (i : Nat),i < 6 → E "numbers" = some (.val (.dat (lI N))) → Ex (P3 C) E (.Subscript (.Name "numbers" q1) (.Constant (.int i) k q2) q3) (.dat (.int (N.getD i 0))) := fun i hi nu => r_item rfl (d_of (n_val nu)) (d_of r_int) (item_l (v := N.getD i 0) (Int.natCast_nonneg i) (by rw [Int.toNat_natCast]; exact getD_at (Nat.lt_of_lt_of_le hi hN)) (Int.ofNat_lt.mpr (Nat.lt_trans hi (by decide))))
 refine W_s (WS_set (v := .dat (.int (N.getD 0 0))) rfl rfl (itN 0 (by decide) nu) fun _ => rfl) ?_
 have nu : setE E "first" (.val (.dat (.int (N.getD 0 0)))) "numbers" = _ := nu
 have fi : setE E "first" (.val (.dat (.int (N.getD 0 0)))) "first" = some (.val (.dat (.int (N.getD 0 0)))) := rfl
 generalize setE E "first" (.val (.dat (.int (N.getD 0 0)))) = E at nu fi ⊢
 generalize N.getD 0 0 = f at fi
 have row : ∀ {E : StE} {q1 q2 q3 q4 q5 q6 q7 : Pos} {k k2 : Nat} (i m : Nat),i < 6 → m ≤ 4 → E "numbers" = some (.val (.dat (lI N))) → E "first" = some (.val (.dat (.int f))) → Ex (P3 C) E (.Call (.Name "_law_row" q1) [.Subscript (.Name "numbers" q2) (.Constant (.int i) k q3) q4,.Name "first" q5,.Constant (.int m) k2 q6] [] q7) (.dat (tI (rowM (N.getD i 0) f m))) := fun i m hi hm nu fi =>
  r_fn (row_pure hC (N.getD i 0) f hm) (vs_cons (itN i hi nu) rfl (vs_cons (n_val fi) rfl (vs_cons r_int rfl vs_nil))) rfl (by rw [hC.K]; rfl) (by rw [hC.K]; rfl)
 obtain ⟨u0,h0⟩ : ∃ u,u = rowM (N.getD 1 0) f 4 := ⟨_,rfl⟩
 obtain ⟨u1,h1⟩ : ∃ u,u = rowM (N.getD 2 0) f 4 := ⟨_,rfl⟩
 obtain ⟨u3,h3⟩ : ∃ u,u = rowM (N.getD 4 0) f 2 := ⟨_,rfl⟩
 have g0 : u0.length ≤ 4 ∧ ∀ c ∈ u0,c ∈ [f,f + 1,f + 2] := h0 ▸ ⟨rowM_len,rowM_sg⟩
 have g1 : u1.length ≤ 4 ∧ ∀ c ∈ u1,c ∈ [f,f + 1,f + 2] := h1 ▸ ⟨rowM_len,rowM_sg⟩
 have g3 : u3.length ≤ 2 ∧ ∀ c ∈ u3,c ∈ [f,f + 1,f + 2] := h3 ▸ ⟨rowM_len,rowM_sg⟩
 refine W_s (WS_new (xs := [tI u0,tI u1]) rfl rfl (l_list (ds := [tI u0,tI u1]) (vs_cons (h0 ▸ row 1 4 (by decide) (by decide) nu fi) rfl (vs_cons (h1 ▸ row 2 4 (by decide) (by decide) nu fi) rfl vs_nil)) rfl) fun _ => rfl) ?_
 have nu : setE E "words" (.live [tI u0,tI u1]) "numbers" = _ := nu
 have fi : setE E "words" (.live [tI u0,tI u1]) "first" = _ := fi
 have wo : setE E "words" (.live [tI u0,tI u1]) "words" = some (.live [tI u0,tI u1]) := rfl
 generalize setE E "words" (.live [tI u0,tI u1]) = E at nu fi wo ⊢
 refine byG fun G9 k9 => ?_
 obtain ⟨a,ha,ha3⟩ := modN (N.getD 3 0) (b := 3) (by decide)
 obtain ⟨b,hb,hb4⟩ := modN (N.getD 3 0 / 3) (b := 4) (by decide)
 refine k9 ?_
 clear k9 G9
 have ha : N.getD 3 0 % 3 = a := ha
 have hb : N.getD 3 0 / 3 % 4 = b := hb
 have dl : (u0.drop a).length ≤ 4 := by rw [List.length_drop]; exact Nat.le_trans (Nat.sub_le _ _) g0.1
 refine W_s (WS_app (d := tI ((u0.drop a).take (b + 1))) wo (show 2 < 2 ^ 19 by decide) rfl rfl (r_to (j := b + 1) (d_of (r_from (j := a) (d_of (r_item (d' := tI u0) rfl (n_live wo) (d_of r_int) rfl)) (d_of (r_bin (d_of (itN 3 (by decide) nu)) (d_of r_int) (mod_i (by decide)))) ha (lt20 g0.1))) (d_of (r_bin (d_of (r_bin (d_of (r_bin (d_of (itN 3 (by decide) nu)) (d_of r_int) (div_i (by decide) (by decide)))) (d_of r_int) (mod_i (by decide)))) (d_of r_int) add_i)) (by rw [hb]; rfl) (lt20 dl))) ?_
 have wo : setE E "words" (.live ([tI u0,tI u1] ++ [tI ((u0.drop a).take (b + 1))])) "words" = some (.live ([tI u0,tI u1] ++ [tI ((u0.drop a).take (b + 1))])) := rfl
 have nu : setE E "words" (.live ([tI u0,tI u1] ++ [tI ((u0.drop a).take (b + 1))])) "numbers" = _ := nu
 have fi : setE E "words" (.live ([tI u0,tI u1] ++ [tI ((u0.drop a).take (b + 1))])) "first" = _ := fi
 generalize setE E "words" (.live ([tI u0,tI u1] ++ [tI ((u0.drop a).take (b + 1))])) = E at nu fi wo ⊢
 have g2 : ((u0.drop a).take (b + 1)).length ≤ 4 ∧ ∀ c ∈ (u0.drop a).take (b + 1),c ∈ [f,f + 1,f + 2] := ⟨by rw [List.length_take]; exact Nat.le_trans (Nat.min_le_right ..) dl,fun c hc => g0.2 c (List.drop_subset _ _ (List.take_subset _ _ hc))⟩
 generalize (u0.drop a).take (b + 1) = u2 at g2 wo
 refine W_s (WS_app (d := tI u3) wo (show 3 < 2 ^ 19 by decide) rfl rfl (h3 ▸ row 4 2 (by decide) (by decide) nu fi)) ?_
 have wo : setE E "words" (.live ([tI u0,tI u1] ++ [tI u2] ++ [tI u3])) "words" = some (.live ([u0,u1,u2,u3].map tI)) := rfl
 have nu : setE E "words" (.live ([tI u0,tI u1] ++ [tI u2] ++ [tI u3])) "numbers" = _ := nu
 have fi : setE E "words" (.live ([tI u0,tI u1] ++ [tI u2] ++ [tI u3])) "first" = _ := fi
 generalize setE E "words" (.live ([tI u0,tI u1] ++ [tI u2] ++ [tI u3])) = E at nu fi wo ⊢
 refine W_frz (fun _ => true) ?_
 have nu : freezeP (fun _ => true) E "numbers" = _ := frz_val nu fun _ => Ent.noConfusion
 have fi : freezeP (fun _ => true) E "first" = _ := frz_val fi fun _ => Ent.noConfusion
 have wo : freezeP (fun _ => true) E "words" = some (.val (.dat (lT [u0,u1,u2,u3]))) := frz_live wo rfl
 generalize freezeP (fun _ => true) E = E at nu fi wo ⊢
 clear h0 h1 h3 ha hb dl
 have g30 : u3.length ≤ 2 := g3.1
 have w4 : ∀ u ∈ [u0,u1,u2,u3],u.length ≤ 4 ∧ ∀ c ∈ u,c ∈ [f,f + 1,f + 2] := fun u hu => by
  rcases List.mem_cons.mp hu with rfl | hu
  ·exact g0
  rcases List.mem_cons.mp hu with rfl | hu
  ·exact g1
  rcases List.mem_cons.mp hu with rfl | hu
  ·exact g2
  ·rw [List.mem_singleton.mp hu]; exact ⟨Nat.le_trans g3.1 (by decide),g3.2⟩
 obtain ⟨ws,hws⟩ : ∃ ws,ws = [u0,u1,u2,u3] := ⟨_,rfl⟩
 rw [← hws] at wo w4
 have l4 : ws.length = 4 := by rw [hws]; rfl
 have l4' := Nat.le_of_eq l4
 have it : ∀ {E : StE} {q1 q2 q3 : Pos} {k : Nat} (i : Nat),i < 4 → E "words" = some (.val (.dat (lT ws))) → Ex (P3 C) E (.Subscript (.Name "words" q1) (.Constant (.int i) k q2) q3) (.dat (tI (ws.getD i []))) := fun i hi wo => r_item rfl (d_of (n_val wo)) (d_of r_int) (item_l (Int.natCast_nonneg i) (by rw [Int.toNat_natCast]; exact get_at (l4 ▸ hi)) (Int.ofNat_lt.mpr (Nat.lt_trans hi (by decide))))
 have e0 : (ws.getD 0 []).length ≤ 4 := hws ▸ g0.1
 have e1 : (ws.getD 1 []).length ≤ 4 := hws ▸ g1.1
 have e3 : (ws.getD 3 []).length ≤ 2 := hws ▸ g30
 clear hws g0 g1 g2 g3 g30
 obtain ⟨tn,ht,ht4⟩ := modN (N.getD 5 0) (b := 4) (by decide)
 have ht : N.getD 5 0 % 4 = tn := ht
 refine W_s (WS_set (v := .dat (.int tn)) rfl rfl (ev_conv (r_bin (d_of (itN 5 (by decide) nu)) (d_of r_int) (mod_i (by decide))) (by rw [ht])) fun _ => rfl) ?_
 have nu : setE E "turn" (.val (.dat (.int tn))) "numbers" = _ := nu
 have fi : setE E "turn" (.val (.dat (.int tn))) "first" = _ := fi
 have wo : setE E "turn" (.val (.dat (.int tn))) "words" = _ := wo
 have tu : setE E "turn" (.val (.dat (.int tn))) "turn" = some (.val (.dat (.int tn))) := rfl
 generalize setE E "turn" (.val (.dat (.int tn))) = E at nu fi wo tu ⊢
 have lr20 : ws.length < 2 ^ 20 := lt20 l4'
 have tl : (ws.drop tn ++ ws.take tn).length = 4 := by rw [List.length_append,Nat.add_comm,← List.length_append,List.take_append_drop,l4]
 refine W_s (WS_set (v := .dat (lT ((ws.drop tn ++ ws.take tn).reverse ++ ws))) rfl rfl (r_bin (d_of (ev_conv (r_rev (xs := (ws.drop tn ++ ws.take tn).map tI) (d_of (r_bin (d_of (ev_conv (r_slice (hi := none) (d_of (n_val wo)) (o_some (d_of (n_val tu))) o_none (slice_l lr20)) (by rw [sl_from (Int.natCast_nonneg _),Int.toNat_natCast]))) (d_of (ev_conv (r_slice (lo := none) (d_of (n_val wo)) o_none (o_some (d_of (n_val tu))) (slice_l lr20)) (by rw [sl_to (Int.natCast_nonneg _),Int.toNat_natCast]))) (add_l (φ := tI) (ap2 (m := 4) (n := 4) (by rw [List.length_drop]; exact Nat.le_trans (Nat.sub_le _ _) l4') (by rw [List.length_take]; exact Nat.le_trans (Nat.min_le_right ..) l4'))))) (d_of (r_neg (d_of r_int))) (by rw [List.length_map]; exact lt20 (Nat.le_of_eq tl))) (congrArg (fun l => V.dat (.list l)) (List.map_reverse ..).symm))) (d_of (n_val wo)) (add_l (φ := tI) (ap2 (m := 4) (n := 4) (by rw [List.length_reverse,tl]; exact Nat.le_refl _) l4'))) fun _ => rfl) ?_
 have dm : ∀ u,u ∈ (ws.drop tn ++ ws.take tn).reverse ++ ws ↔ u ∈ ws := fun u => by
  rw [List.mem_append,List.mem_reverse,List.mem_append,Or.comm (b := u ∈ ws.take tn),← List.mem_append,List.take_append_drop,or_self]
 have d8 : ((ws.drop tn ++ ws.take tn).reverse ++ ws).length = 8 := by rw [List.length_append,List.length_reverse,tl,l4]
 generalize (ws.drop tn ++ ws.take tn).reverse ++ ws = td at dm d8 ⊢
 have nu : setE E "turned" (.val (.dat (lT td))) "numbers" = _ := nu
 have fi : setE E "turned" (.val (.dat (lT td))) "first" = _ := fi
 have wo : setE E "turned" (.val (.dat (lT td))) "words" = _ := wo
 have tu : setE E "turned" (.val (.dat (lT td))) "turned" = some (.val (.dat (lT td))) := rfl
 generalize setE E "turned" (.val (.dat (lT td))) = E at nu fi wo tu ⊢
 have h6 : (psl N (some 6) none).length ≤ 6 := by rw [sl_from (by decide),List.length_drop]; exact Nat.sub_le_of_le_add hN12
 have g6 : ((psl N (some 6) none).map fun n => f + n % 3).length ≤ 6 := by rw [List.length_map]; exact h6
 refine W_s (WS_set (v := .dat (tI (ws.getD 3 [] ++ ws.getD 0 [] ++ ws.getD 1 [] ++ (psl N (some 6) none).map fun n => f + n % 3))) rfl rfl (r_bin (d_of (r_bin (d_of (r_bin (d_of (it 3 (by decide) wo)) (d_of (it 0 (by decide) wo)) (add_tI (ap2 e3 e0)))) (d_of (it 1 (by decide) wo)) (add_tI (ap2 (apL e3 e0) e1)))) (d_of (ev_conv (r_tup (xs := (psl N (some 6) none).map fun n => PyData.int (f + n % 3)) (r_comp rfl ⟨rfl,it_val (d := lI (psl N (some 6) none)) rfl rfl (r_slice (hi := none) (d_of (n_val nu)) (o_some (d_of r_int)) o_none (slice_l (lt20 hN12))) rfl,cr_map rfl rfl (fun n hn => r_bin (d_of (n_val (v := .dat (.int f)) (mask_val rfl fi))) (d_of (r_bin (d_of (n_val (v := .dat (.int n)) rfl)) (d_of r_int) (mod_i (by decide)))) add_i),by rw [List.length_map]; exact lt20 h6⟩) rfl rfl (by rw [List.length_map]; exact decide_eq_true (lt20 h6))) (by rw [tI,List.map_map]; rfl))) (add_tI (ap2 (apL (apL e3 e0) e1) g6))) fun _ => rfl) ?_
 have t16 : (ws.getD 3 [] ++ ws.getD 0 [] ++ ws.getD 1 [] ++ (psl N (some 6) none).map fun n => f + n % 3).length ≤ 16 := apL (apL (apL e3 e0) e1) g6
 generalize (ws.getD 3 [] ++ ws.getD 0 [] ++ ws.getD 1 [] ++ (psl N (some 6) none).map fun n => f + n % 3) = t at t16 ⊢
 exact k f ws td t (setE E "text" (.val (.dat (tI t)))) ⟨l4,fun u hu => (w4 u hu).1,fun u hu => (w4 u hu).2,d8,dm,Nat.le_trans t16 (by decide)⟩ ⟨fi,wo,tu,rfl⟩
end
section
noncomputable abbrev BgP (ws : List (List Int)) (i : Nat) (y : List Int) : Prop := y = [] ∨ ∃ w ∈ ws.take i,y <+: w
inductive BgO (f : Int) (ws td : List (List Int)) (t : List Int) (i : Nat) (E : StE) : Prop
 | mk (G : List (List Int)) (B : Bgn ws (BgP ws i) G) (b : S3 f ws td t E) (e : E "begun" = some (.live (G.map tI)))
inductive BgJ (f : Int) (ws td : List (List Int)) (t : List Int) (i : Nat) (w : List Int) (j : Nat) (E : StE) : Prop
 | mk (G : List (List Int)) (B : Bgn ws (fun y => BgP ws i y ∨ ∃ k,k ≤ j ∧ y = w.take k) G) (b : S3 f ws td t E) (e : E "begun" = some (.live (G.map tI))) (ew : E "word" = some (.val (.dat (tI w))))
theorem sum4 {ws : List (List Int)} (h : ∀ u ∈ ws,u.length ≤ 4) : (ws.map List.length).sum ≤ 4 * ws.length := by
 induction ws with
 | nil => exact Nat.le_refl _
 | cons u ws ih =>
  rw [List.map_cons,List.sum_cons,List.length_cons,Nat.mul_succ,Nat.add_comm]
  exact Nat.add_le_add (ih fun v hv => h v (List.mem_cons_of_mem _ hv)) (h u List.mem_cons_self)
theorem d_i2 (i : Nat) : ((1 : Nat) : Int) + i = ((i + 1 : Nat) : Int) := by omega
theorem law03_B {C : Cx} {f : Int} {ws td : List (List Int)} {t : List Int} {E : StE} (w : Ws3 f ws td t) (b : S3 f ws td t E) {Q : Fl → StE → Prop}
  (k : ∀ G E,Bgn ws (fun y => y = [] ∨ ∃ w ∈ ws,y <+: w) G → G.length ≤ 17 → S3 f ws td t E → E "begun" = some (.val (.dat (lT G))) → W (P3 C) E ((fBd 9).drop 10) Q) : W (P3 C) E ((fBd 9).drop 8) Q := by
 have gl : ∀ {G : List (List Int)} {S : List Int → Prop},Bgn ws S G → G.length ≤ 17 := fun B => by
  have := sum4 w.w4
  rw [w.l4] at this
  exact Nat.le_trans B.len (Nat.add_le_add_left this 1)
 refine W_s (WS_new (xs := [tI []]) rfl rfl (l_list (ds := [tI []]) (vs_cons (r_tuple (ds := []) vs_nil rfl) rfl vs_nil) rfl) fun _ => rfl) ?_
 refine W_one (I := BgO f ws td t ws.length) (WS_for (items := ws.map tI) (BgO f ws td t) rfl (it_val (d := lT ws) rfl rfl (n_val (v := .dat (lT ws)) b.wo) rfl) ⟨[[]],Bgn.init fun y => ⟨fun h => h.elim id fun ⟨w,hw,_⟩ => absurd hw List.not_mem_nil,.inl⟩,⟨b.fi,b.wo,b.tu,b.te⟩,rfl⟩ (fun i d E hd ⟨G,B,b,e⟩ => ?_) fun E hI => ⟨rfl,by rw [List.length_map] at hI; exact hI⟩) fun E ⟨G,B,b,e⟩ => ?_
 ·rw [List.getElem?_map] at hd
  obtain ⟨u,hi,rfl⟩ := Option.map_eq_some_iff.mp hd
  have hu := List.mem_of_getElem? hi
  have ul := w.w4 u hu
  refine ⟨_,rfl,W_one (I := BgJ f ws td t i u u.length) (WS_for (items := (List.range u.length).map fun i : Nat => PyData.int (((1 : Nat) : Int) + i)) (BgJ f ws td t i u) rfl (rg_from (a := 1) (b := u.length + 1) rfl (rg_2 (d_of r_int) (d_of (r_bin (d_of (r_len (d_of (n_val (v := .dat (tI u)) rfl)) rfl rfl (len_tm (lt20 ul)))) (d_of r_int) add_i)) rfl rfl rfl) (by decide) (Nat.le_trans (Nat.succ_le_succ ul) (by decide))) ⟨G,B.old fun y => ⟨fun h => h.elim id fun ⟨k,hk,e⟩ => .inl (by rw [e,Nat.le_zero.mp hk]; rfl),.inl⟩,⟨b.fi,b.wo,b.tu,b.te⟩,e,rfl⟩ (fun j d E hd ⟨G,B,b,e,ew⟩ => ?_) fun E hI => ⟨rfl,by rw [List.length_map,List.length_range] at hI; exact hI⟩) fun E ⟨G,B,b,e,ew⟩ => W_nil ⟨G,B.old fun y => ?_,b,e⟩⟩
  ·obtain ⟨hj,rfl⟩ := range_at hd
   have hs : ∀ {E : StE} {p1 p2 p3 p4 : Pos},E "word" = some (.val (.dat (tI u))) → E "size" = some (.val (.dat (.int (((1 : Nat) : Int) + j)))) → Ex (P3 C) E (.Subscript (.Name "word" p1) (.Slice none (some (.Name "size" p2)) none p3) p4) (.dat (tI (u.take (j + 1)))) := fun e1 e2 => r_to (j := j + 1) (d_of (n_val e1)) (d_of (n_val e2)) (d_i2 j) (lt20 ul)
   have st : ∀ y,(BgP ws i y ∨ ∃ k,k ≤ j + 1 ∧ y = u.take k) ↔ (BgP ws i y ∨ ∃ k,k ≤ j ∧ y = u.take k) ∨ y = u.take (j + 1) := fun y => by
    refine Iff.trans (or_congr (a := BgP ws i y) Iff.rfl ⟨fun ⟨k,hk,e⟩ => ?_,fun h => h.elim (fun ⟨k,hk,e⟩ => ⟨k,Nat.le_succ_of_le hk,e⟩) fun e => ⟨_,Nat.le_refl _,e⟩⟩) (or_assoc (a := BgP ws i y) (b := ∃ k,k ≤ j ∧ y = u.take k)).symm
    rcases Nat.lt_or_ge j k with q | q
    ·exact .inr (by rw [e,Nat.le_antisymm hk q])
    ·exact .inl ⟨k,q,e⟩
   refine ⟨_,rfl,W_one (I := BgJ f ws td t i u (j + 1)) (W_if (t_cmp rfl (d_of (hs ew rfl)) (n_live e) (nice_tI.cmpNotIn' (by decide) (u.take (j + 1)) G decide_eq_true_iff)) ?_) fun E hI => W_nil hI⟩
   by_cases hm : u.take (j + 1) ∈ G
   ·rw [decide_eq_true hm]
    exact W_nil ⟨rfl,G,B.old fun y => (st y).trans ⟨fun h => h.elim id fun e => (B.mem y).mp (e ▸ hm),.inl⟩,⟨b.fi,b.wo,b.tu,b.te⟩,e,ew⟩
   ·rw [decide_eq_false hm]
    refine W_s (WS_app (d := tI (u.take (j + 1))) e ?_ rfl rfl (hs ew rfl)) (W_nil ⟨rfl,G ++ [u.take (j + 1)],B.put hm hu (List.take_prefix ..) st,⟨b.fi,b.wo,b.tu,b.te⟩,?_,ew⟩)
    ·rw [List.length_map]; exact Nat.lt_of_le_of_lt (gl B) (by decide)
    ·exact congrArg (some ∘ Ent.live) (by rw [List.map_append]; rfl)
  ·unfold BgP
   rw [List.take_succ,hi,or_assoc]
   refine or_congr Iff.rfl ⟨fun ⟨v,hv,hp⟩ => ?_,fun h => ?_⟩
   ·rcases List.mem_append.mp hv with hv | hv
    ·exact .inl ⟨v,hv,hp⟩
    ·rw [List.mem_singleton.mp hv] at hp
     exact .inr ⟨y.length,hp.length_le,List.prefix_iff_eq_take.mp hp⟩
   ·rcases h with ⟨v,hv,hp⟩ | ⟨k,_,e⟩
    ·exact ⟨v,List.mem_append_left _ hv,hp⟩
    ·exact ⟨u,List.mem_append_right _ List.mem_cons_self,e ▸ List.take_prefix ..⟩
 ·refine W_frz (fun _ => true) ?_
  refine k G _ (B.old fun y => ?_) (gl B) ⟨frz_val b.fi fun _ => Ent.noConfusion,frz_val b.wo fun _ => Ent.noConfusion,frz_val b.tu fun _ => Ent.noConfusion,frz_val b.te fun _ => Ent.noConfusion⟩ (frz_live e rfl)
  unfold BgP
  rw [List.take_length]
end
section
theorem r_both {P : Pr} {E : StE} {v lo hi : Expr} {p q : Pos} {w : List Int} {a b : Int} {i j : Nat} (hv : Xd P E v (tI w)) (h1 : Xd P E lo (.int a)) (h2 : Xd P E hi (.int b)) (e1 : a = (i : Int)) (e2 : b = (j : Int)) (hw : w.length < 2 ^ 20) : Ex P E (.Subscript v (.Slice (some lo) (some hi) none p) q) (.dat (tI ((w.take j).drop i))) := by
 subst e1; subst e2
 exact ev_conv (r_slice hv (o_some h1) (o_some h2) (slice_tI hw)) (by rw [sl_both (Int.natCast_nonneg _) (Int.natCast_nonneg _),Int.toNat_natCast,Int.toNat_natCast])
noncomputable abbrev sg3 (f : Int) : List Int := [f,f + 1,f + 2]
structure L3 (f : Int) (ws td : List (List Int)) (t : List Int) (G : List (List Int)) (E : StE) : Prop extends S3 f ws td t E where
 du : E "due" = some (.val (.dic (dueT ws G (sg3 f))))
theorem dueK {ws G : List (List Int)} {sg : List Int} {k : List Int} : ((dueT ws G sg).lookup k).isSome = decide (k ∈ G) := by
 by_cases h : k ∈ G
 ·have : (dueT ws G sg).lookup k = some _ := dueT_look h
  rw [this,decide_eq_true h]; rfl
 ·rw [look_none (by rw [dueT_keys]; exact h),decide_eq_false h]; rfl
noncomputable def rowAt (G : List (List Int)) (t : List Int) (e : Nat) : List Int := lend (fun k => decide (k ∈ G)) ((t.take (e + 1)).drop (e + 1 - 4))
theorem told_fnd {ws G : List (List Int)} {t : List Int} {e : Nat} : (toldH ws (rowAt G t e)).map (fun h => (h.1,((e + 1 : Nat) : Int) - h.2)) = fndAt ws (fun k => decide (k ∈ G)) t e := by
 rw [← toldH_ends,List.map_map]
 rfl
theorem d_i4 (e : Nat) : (if ((1 : Nat) : Int) + e - 4 > 0 then ((1 : Nat) : Int) + e - 4 else 0) = ((e + 1 - 4 : Nat) : Int) := by
 split <;> omega
inductive FnO (f : Int) (ws td : List (List Int)) (t : List Int) (G : List (List Int)) (i : Nat) (E : StE) : Prop
 | mk (b : L3 f ws td t G E) (e : E "found" = some (.live (((List.range i).flatMap (fndAt ws (fun k => decide (k ∈ G)) t)).map hI)))
inductive FnJ (f : Int) (ws td : List (List Int)) (t : List Int) (G : List (List Int)) (i j : Nat) (E : StE) : Prop
 | mk (b : L3 f ws td t G E) (e : E "found" = some (.live (((List.range i).flatMap (fndAt ws (fun k => decide (k ∈ G)) t) ++ ((toldH ws (rowAt G t i)).take j).map fun h => (h.1,((i + 1 : Nat) : Int) - h.2)).map hI))) (en : E "end" = some (.val (.dat (.int (((1 : Nat) : Int) + i)))))
theorem law03_C {C : Cx} (hC : Kn C) {f : Int} {ws td G : List (List Int)} {t : List Int} {E : StE} (w : Ws3 f ws td t) (B : Bgn ws (fun y => y = [] ∨ ∃ w ∈ ws,y <+: w) G) (hl : G.length ≤ 17) (b : S3 f ws td t E) (eb : E "begun" = some (.val (.dat (lT G)))) {Q : Fl → StE → Prop}
  (k : ∀ E,L3 f ws td t G E → E "found" = some (.val (.dat (lH (hitsOf (qW ws) t)))) → W (P3 C) E ((fBd 9).drop 13) Q) : W (P3 C) E ((fBd 9).drop 10) Q := by
 have g4 : ∀ u ∈ G,u.length ≤ 4 := fun u hu => ((B.mem u).mp hu).elim (fun e => by rw [e]; exact Nat.zero_le _) fun ⟨v,hv,hp⟩ => Nat.le_trans hp.length_le (w.w4 v hv)
 refine W_s (WS_set (v := .dic (dueT ws G (sg3 f))) rfl rfl (r_fn (due_pure (R := 38) hC (sg := sg3 f) (Nat.le_trans hl (by decide)) B.nd (fun r hr => Nat.le_trans (g4 r hr) (by decide)) (by show 3 ≤ 100; decide) (by rw [w.l4]; decide)) (vs_cons (n_val b.wo) rfl (vs_cons (n_val eb) rfl (vs_cons (r_list (ds := [.int f,.int (f + 1),.int (f + 2)]) (vs_cons (n_val b.fi) rfl (vs_cons (r_bin (d_of (n_val b.fi)) (d_of r_int) add_i) rfl (vs_cons (r_bin (d_of (n_val b.fi)) (d_of r_int) add_i) rfl vs_nil))) rfl) rfl vs_nil))) rfl (by rw [hC.K]; rfl) (by rw [hC.K]; rfl)) fun _ => rfl) ?_
 refine W_s (WS_new (xs := []) rfl rfl (l_list (ds := []) vs_nil rfl) fun _ => rfl) ?_
 have fl : ∀ i,(fndAt ws (fun k => decide (k ∈ G)) t i).length ≤ 4 := fun i => by
  unfold fndAt
  rw [List.length_map]
  refine Nat.le_trans (ends_len _) (Nat.le_trans (lend_suffix _).length_le ?_)
  rw [List.length_drop,List.length_take]
  omega
 refine W_one (I := FnO f ws td t G t.length) (WS_for (items := (List.range t.length).map fun i : Nat => PyData.int (((1 : Nat) : Int) + i)) (FnO f ws td t G) rfl (rg_from (a := 1) (b := t.length + 1) rfl (rg_2 (d_of r_int) (d_of (r_bin (d_of (r_len (d_of (n_val (v := .dat (tI t)) b.te)) rfl rfl (len_tm (lt20 w.t20)))) (d_of r_int) add_i)) rfl rfl rfl) (by decide) (Nat.le_trans (Nat.succ_le_succ w.t20) (by decide))) ⟨⟨⟨b.fi,b.wo,b.tu,b.te⟩,rfl⟩,rfl⟩ (fun i d E hd ⟨b,e⟩ => ?_) fun E hI => ⟨rfl,by rw [List.length_map,List.length_range] at hI; exact hI⟩) fun E ⟨b,e⟩ => ?_
 ·obtain ⟨hi,rfl⟩ := range_at hd
  have hr : rowAt G t i ∈ G := (lend_ok (p := fun k => decide (k ∈ G)) ((t.take (i + 1)).drop (i + 1 - 4))).elim (fun e => by
   unfold rowAt
   rw [e]; exact List.mem_of_getElem? B.z) of_decide_eq_true
  have hlk : (datD (dueT ws G (sg3 f))).lookup (rowAt G t i) = some (.dat (dueD (fun k => decide (k ∈ G.reverse)) ws (sg3 f) (rowAt G t i))) := datD_look.trans (congrArg (Option.map V.dat) (dueT_look hr))
  have hq : (fun k => ((dueT ws G (sg3 f)).lookup k).isSome) = fun k => decide (k ∈ G) := funext fun k => dueK
  have hle := le_pure hC (R := 39) (nm := fNm 9) (kd := .law) ((t.take (i + 1)).drop (i + 1 - 4)) (inv_dic (D := dueT ws G (sg3 f))) (by rw [List.length_drop,List.length_take]; exact Nat.le_trans (Nat.sub_le _ _) (Nat.le_trans (Nat.min_le_right ..) (Nat.le_trans w.t20 (by decide))))
  rw [hq] at hle
  refine ⟨_,rfl,W_one (I := FnJ f ws td t G i (toldH ws (rowAt G t i)).length) (WS_for (items := (toldH ws (rowAt G t i)).map hI) (FnJ f ws td t G i) rfl (it_val (d := .tuple (toldD ws (rowAt G t i))) rfl rfl (r_item rfl (d_of (r_getD (dx_val (n_val b.du)) (r_fn hle (vs_cons (r_both (i := i + 1 - 4) (j := i + 1) (d_of (n_val b.te)) (d_of (r_max (a := 0) (b := ((1 : Nat) : Int) + i - 4) (d_of r_int) (d_of (r_bin (d_of (n_val rfl)) (d_of r_int) sub_i)) rfl rfl rfl rfl)) (d_of (n_val rfl)) (d_i4 i) (d_i2 i) (lt20 w.t20)) rfl (vs_cons (n_val b.du) rfl vs_nil)) rfl (by rw [hC.K]; rfl) (by rw [hC.K]; rfl)) hlk rfl)) (d_of r_int) rfl) (congrArg some toldD_eq)) ⟨⟨⟨b.fi,b.wo,b.tu,b.te⟩,b.du⟩,e.trans (by rw [List.take_zero,List.map_nil,List.append_nil]),rfl⟩ (fun j d E hd ⟨b,e,en⟩ => ?_) fun E hI => ⟨rfl,by rw [List.length_map] at hI; exact hI⟩) fun E ⟨b,e,en⟩ => W_nil ⟨b,?_⟩⟩
  ·rw [List.getElem?_map] at hd
   obtain ⟨h,hh,rfl⟩ := Option.map_eq_some_iff.mp hd
   refine ⟨_,rfl,W_s (WS_app (d := hI (h.1,((i + 1 : Nat) : Int) - h.2)) e ?_ rfl rfl (r_tuple (ds := [tI h.1,.int (((i + 1 : Nat) : Int) - h.2)]) (vs_cons (n_val (v := .dat (tI h.1)) rfl) rfl (vs_cons (ev_conv (r_bin (d_of (n_val en)) (d_of (n_val (v := .dat (.int h.2)) rfl)) sub_i) (by rw [d_i2])) rfl vs_nil)) rfl)) (W_nil ⟨⟨⟨b.fi,b.wo,b.tu,b.te⟩,b.du⟩,?_,en⟩)⟩
   ·have h1 := flat_len (b := 4) (List.range i) fun a _ => fl a
    have h2 := fl i
    rw [← told_fnd,List.length_map] at h2
    rw [List.length_range] at h1
    have := w.t20
    rw [List.length_map,List.length_append,List.length_map,List.length_take]
    omega
   ·exact congrArg (some ∘ Ent.live) (by rw [List.take_succ,hh]; simp only [Option.toList_some,List.map_append,List.append_assoc,List.map_cons,List.map_nil])
  ·rw [e,List.take_length,told_fnd,flat_succ]
 ·refine W_frz (fun _ => true) ?_
  have e2 : (List.range t.length).flatMap (fndAt ws (fun k => decide (k ∈ G)) t) = hitsOf (qW ws) t := flatMap_congr' fun e he => fnd_hits (fun u h => g4 u (of_decide_eq_true h)) (fun u h => decide_eq_true ((B.mem u).mpr (.inr ⟨u,(qW_mem h).1,List.prefix_refl _⟩))) (List.mem_range.mp he)
  rw [e2] at e
  exact k _ ⟨⟨frz_val b.fi fun _ => Ent.noConfusion,frz_val b.wo fun _ => Ent.noConfusion,frz_val b.tu fun _ => Ent.noConfusion,frz_val b.te fun _ => Ent.noConfusion⟩,frz_val b.du fun _ => Ent.noConfusion⟩ (frz_live e rfl)
end
section
theorem fin_both {ws : List (List Int)} (h16 : ∀ k ∈ ws,k.length ≤ 16) (hs : (ws.map List.length).sum ≤ 200) : ∃ W Te,FinT ws Te ∧ FinI ws W Te := by
 obtain ⟨W,T,hfin,I⟩ := fin_spec h16 hs
 refine ⟨W,T,⟨hfin,I.outsOk h16,fun t ht => ?_⟩,I⟩
 rw [srch0 I]
 refine ⟨naive_hits _ _,Nat.le_trans (naive_len t [] 0) ?_⟩
 rw [List.length_nil,Nat.zero_add]
 exact Nat.le_trans (Nat.mul_le_mul ht ht) (by decide)
theorem W_sub {P : Pr} {E E' : StE} {b : List Stmt} {Q : Fl → StE → Prop} (hs : ∀ x e,E' x = some e → E x = some e) (h : W P E' b Q) : W P E b Q := fun f z s ok S X => h f z s ok (S.sub hs) X
theorem sub_put {E E' : StE} {x : Str} {v : Ent} (h : ∀ y e,E' y = some e → E y = some e) (hx : E x = some v) : ∀ y e,setE E' x v y = some e → E y = some e := fun y e q => by
 unfold setE at q
 split at q
 ·rename_i e1; rw [e1,hx]; exact q
 ·exact h y e q
structure O3 (t : List Int) (D : List (List Int × PyData)) (H : List (List Int × Int)) (E : StE) : Prop where
 te : E "text" = some (.val (.dat (tI t)))
 du : E "due" = some (.val (.dic D))
 fo : E "found" = some (.val (.dat (lH H)))
theorem law03_D {C : Cx} (hC : Kn C) {f : Int} {ws td G : List (List Int)} {t : List Int} {E : StE} (w : Ws3 f ws td t) (B : Bgn ws (fun y => y = [] ∨ ∃ w ∈ ws,y <+: w) G) (hl : G.length ≤ 17) (b : L3 f ws td t G E) (ef : E "found" = some (.val (.dat (lH (hitsOf (qW ws) t))))) : W (P3 C) E ((fBd 9).drop 13) fun fl _ => fl = .ret (.dat (.bool true)) := by
 refine W_one (I := O3 t (dueT ws G (sg3 f)) (hitsOf (qW ws) t)) (WS_for (items := [lT ws,lT td]) (fun _ => O3 t (dueT ws G (sg3 f)) (hitsOf (qW ws) t)) rfl (it_val (d := .list [lT ws,lT td]) rfl rfl (r_list (ds := [lT ws,lT td]) (vs_cons (n_val b.wo) rfl (vs_cons (n_val b.tu) rfl vs_nil)) rfl) rfl) ⟨b.te,b.du,ef⟩ (fun i d E hd ⟨te,du,fo⟩ => ?_) fun E hI => ⟨rfl,hI⟩) fun E _ => W_cons (W_ret r_bool rfl)
 obtain ⟨o,hol,hom,rfl⟩ : ∃ o : List (List Int),o.length ≤ 8 ∧ (∀ u,u ∈ o ↔ u ∈ ws) ∧ d = lT o := by
  rcases List.mem_cons.mp (List.mem_of_getElem? hd) with h | h
  ·exact ⟨ws,by rw [w.l4]; decide,fun _ => Iff.rfl,h⟩
  ·exact ⟨td,Nat.le_of_eq w.d8,w.dm,List.mem_singleton.mp h⟩
 refine ⟨_,rfl,?_⟩
 have o4 : ∀ u ∈ o,u.length ≤ 4 := fun u hu => w.w4 u ((hom u).mp hu)
 obtain ⟨Wd,Te,FT,FI⟩ := fin_both (ws := o) (fun k hk => Nat.le_trans (o4 k hk) (by decide)) (Nat.le_trans (sum4 o4) (by omega))
 have FI := FI.congr hom
 have hq := qW_congr hom
 refine W_sub (E' := setE (setE (setE (setE (fun _ => none) "text" (.val (.dat (tI t)))) "due" (.val (.dic (dueT ws G (sg3 f))))) "found" (.val (.dat (lH (hitsOf (qW ws) t))))) "order" (.val (.dat (lT o)))) (sub_put (sub_put (sub_put (sub_put (fun _ _ h => by cases h) te) du) fo) rfl) ?_
 have fl : Flat (setE (setE (setE (setE (fun _ => none) "text" (.val (.dat (tI t)))) "due" (.val (.dic (dueT ws G (sg3 f))))) "found" (.val (.dat (lH (hitsOf (qW ws) t))))) "order" (.val (.dat (lT o)))) := Flat.set (Flat.set (Flat.set (Flat.set (fun _ _ h => by cases h) trivial) trivial) trivial) trivial
 have b0 : O3 t (dueT ws G (sg3 f)) (hitsOf (qW ws) t) (setE (setE (setE (setE (fun _ => none) "text" (.val (.dat (tI t)))) "due" (.val (.dic (dueT ws G (sg3 f))))) "found" (.val (.dat (lH (hitsOf (qW ws) t))))) "order" (.val (.dat (lT o)))) := ⟨rfl,rfl,rfl⟩
 have po : setE (setE (setE (setE (fun _ => none) "text" (.val (.dat (tI t)))) "due" (.val (.dic (dueT ws G (sg3 f))))) "found" (.val (.dat (lH (hitsOf (qW ws) t))))) "order" (.val (.dat (lT o))) "order" = some (.val (.dat (lT o))) := rfl
 clear te du fo hd
 generalize setE (setE (setE (setE (fun _ => none) "text" (.val (.dat (tI t)))) "due" (.val (.dic (dueT ws G (sg3 f))))) "found" (.val (.dat (lH (hitsOf (qW ws) t))))) "order" (.val (.dat (lT o))) = E at fl b0 po ⊢
 refine W_sx (WS_tree hC (R := 36) fl rfl rfl rfl) fun ob => ?_
 refine W_cons (WS.mono (WS_adds hC (R := 40) (by decide) (φ := tI) (g := fun w => w) (L := o) (T := ⟨[root0],ob,1⟩) rfl rfl (fun n hn => by rw [List.mem_singleton.mp hn]; exact Nat.le_refl _) rfl (by decide) (by decide) (by decide) rfl (it_val (d := lT o) rfl rfl (n_val po) rfl) (Nat.le_trans hol (by decide)) (fun w hw => Nat.le_trans (o4 w hw) (by decide)) rfl rfl (fun w hw E' fr hx => n_val hx)) fun fl E2 q => ?_)
 obtain ⟨rfl,T2,e2,h2,fr⟩ := q
 have b2 : O3 t (dueT ws G (sg3 f)) (hitsOf (qW ws) t) E2 := ⟨(fr "text" (by decide) (by decide)).trans b0.te,(fr "due" (by decide) (by decide)).trans b0.du,(fr "found" (by decide) (by decide)).trans b0.fo⟩
 have kt : E2 "tree" = some (.val .kt) := (fr "tree" (by decide) (by decide)).trans rfl
 clear fr b0 po fl
 refine W_cons (WS.mono (WS_fin hC (R := 40) (by decide) e2 (h2.trans (by rw [List.map_id']; rfl)) FT kt rfl) fun fl E3 q => ?_)
 obtain ⟨rfl,T3,h3,rfl⟩ := q
 subst h3
 have b3 : O3 t (dueT ws G (sg3 f)) (hitsOf (qW ws) t) (setE E2 "" (.tr T3 true)) := ⟨b2.te,b2.du,b2.fo⟩
 have kt : setE E2 "" (.tr T3 true) "tree" = some (.val .kt) := kt
 have et : setE E2 "" (.tr T3 true) "" = some (.tr T3 true) := rfl
 clear b2 e2 h2
 generalize setE E2 "" (.tr T3 true) = E at b3 kt et ⊢
 have hG : ∀ y,y ∈ G ↔ y ∈ Wd := fun y => (B.mem y).trans (FI.mem y).symm
 have hsg : ∀ u ∈ Wd,∀ c ∈ u,c ∈ sg3 f := fun u hu c hc => by
  rcases (FI.mem u).mp hu with rfl | ⟨v,hv,hp⟩
  ·cases hc
  ·exact w.sg v hv c (hp.subset hc)
 have hl4 : ∀ u ∈ Wd,u.length ≤ 1000 := fun u hu => by
  rcases (FI.mem u).mp hu with rfl | ⟨v,hv,hp⟩
  ·exact Nat.zero_le _
  ·exact Nat.le_trans hp.length_le (Nat.le_trans (w.w4 v hv) (by decide))
 have hss : (sg3 f).Pairwise (· < ·) := List.pairwise_cons.mpr ⟨fun c hc => by
  rcases List.mem_cons.mp hc with rfl | hc
  ·omega
  ·rw [List.mem_singleton.mp hc]; omega,List.pairwise_cons.mpr ⟨fun c hc => by rw [List.mem_singleton.mp hc]; omega,List.pairwise_singleton ..⟩⟩
 refine W_cons (W_if (Xt.not (Xt.plain (d_of (r_rd (T := T3) (ma_rd (R := 38) (nm := fNm 9) (kd := .law) hC FI hG B.nd B.z (Nat.lt_of_le_of_lt hl (by decide)) hl4 hss (by show 3 ≤ 60; decide) hsg) (.inl rfl) et (vs_cons (r_head (fin := true) (hC.at (at_zero _)) et (n_val kt) rfl) rfl (vs_cons (n_val b3.du) rfl vs_nil)) rfl (by rw [hC.K]; rfl) (by rw [hC.K]; rfl))) rfl)) (W_nil ?_))
 have t200 : t.length ≤ 200 := Nat.le_trans w.t20 (by decide)
 have e1 : (srchT T3.T 0 0 t).map hitD = (hitsOf (qW ws) t).map hI := by rw [(FT.s t t200).1,hq]; rfl
 refine W_cons (W_if (t_cmp (b := false) rfl (d_of (r_srch (P := P3 C) hC (by show 3 ≤ 40; decide) rfl rfl et (n_val kt) (n_val (v := .dat (wordD t)) b3.te) FT.o (FT.s t t200).2 rfl rfl)) (d_of (n_val b3.fo)) ?_) (W_nil (W_nil b3)))
 rw [e1,nice_lH.cmpNe (by decide),decide_eq_true rfl]; rfl
theorem law03_run {C : Cx} (hC : Kn C) (ns : List Int) (hns : ns.length ≤ 63) : W (P3 C) (initE ["script"] [.dat (lI ns)]) (fBd 9) fun fl _ => fl = .ret (.dat (.bool true)) :=
 law03_A hC ns hns fun f ws td t E w S => law03_B w S fun G E B hl S eb => law03_C hC w B hl S eb fun E L ef => law03_D hC w B hl L ef
end
section
theorem good_true {c : ClaimW} {cl : Str → Option Addr} {mean : ExcName → Option Value} {args : List WData} {s₁ s' : Shared} {b : Bool} (k : Kp s₁.heap.objs.size s₁ s') (hg : s₁.gens = #[]) (hn : ∀ cls,c.raises args cls = false) (hp : c.post args (.bool b) args = true) : GoodWG c cl mean args s₁ (.ok (.ret (.bool b))) s' := by
 refine ⟨.inl ⟨.bool b,.bool b,[],rfl,hn,.bool b,hp,fun _ => ⟨List.nodup_nil,fun _ h => nomatch h⟩⟩,.of_keep fun a o e => k.low e (Heap.lt_size e),k.os,fun y hy => k.gens.2.2 (fun x hx => by rw [hg] at hx; simp at hx) y hy⟩
theorem fn03 {C : Cx} (h : Kn C) : ∃ fd,FnIs C 163 fd ["script"] (fBd 9) (fNm 9) ∧ ∀ a,bindArgs fd ⟨[a],[]⟩ = pure [(("script" : Str),a)] := ⟨_,h.fn rfl rfl rfl rfl rfl rfl rfl rfl rfl rfl rfl rfl rfl,fun _ => rfl⟩
theorem t3 : PySem.Challenge.rw_nc0003_03.Holds := by
 w_on
 refine holds_law (by kernel_rfl) fun _ => ?_
 refine holds_open (q := view) (loose := [.ofString "State",.ofString "KeywordTree"]) (Xt := fun s => xlAt view [] s && recOk (RowW.records Challenge.rw_nc0003_03.row.toRowW) s) (XP := XL view []) (Yf := kH.obs) (Ya := kH.val) (YP := kH.says) (N := 2142) left_ok kH.of kH.keeps (fun s e => xl_of s (Bool.and_eq_true_iff.mp e).1) XL.keeps (by rfl) (by rfl) (by rfl) (fun s e => recFacts_of (Bool.and_eq_true_iff.mp e).2) (by rfl) (by first | assumption | decide +kernel) (by decide +kernel) ⟨rfl,rfl,rfl,rfl,rfl,by decide +kernel⟩ ?hw ?hc
 case hw => w_witness2
 intro w s₀ s₁ mg mb G Y fa o pm cd doc dV kV ho hfd hcd hD hmg hg args vals as hpre hlay hrd hwl hlo
 have KX : (kF w.params).In s₁.heap := kIn_of (e := kF_as) Y
 have hfa : fa = 163 := by
  have e := mg_of KX G.T.g (rfl : nsIn (kF w.params) mainGlobals "law" = some (some (.ref 163)))
  have e2 := hmg.symm.trans e
  cases e2
  rfl
 wrow_args hpre hlay hrd hwl hlo
 clear hfd hcd hD hmg
 rename_i ns h1 h2 h3 h4 h5 w4 w3 w2 w1 w0 hL ra r1 r0 hI hr hc hc'
 subst hfa
 let C : Cx := ⟨Challenge.rw_nc0003_03.row.prog,w,s₁.heap,kF w.params,mg,mb,KX,G.T.g,G.T.b,G.T.builtins,G.T.nolimit⟩
 have hC : Kn C := ⟨rfl⟩
 obtain ⟨fd,hF,hb⟩ := fn03 (C := C) hC
 have hp := fn_run (R := 40) (kd := .law) (names' := fNm 9) (un := true) (kd' := .law) hF hC.gb (fun ws hl => by obtain ⟨a,rfl⟩ := len1 hl; exact hb a) rfl rfl (law03_run hC ns (by omega)) fun z z' h w _ r => (by have r : Rd h z'.lv w (.bool true) := r; rw [r.bool_inv]; exact rd_bool)
 refine hp _ _ (fun _ => False) ⟨fun _ => False,0,0,[],fun _ => 0⟩ _ rfl (fun _ => rfl) ⟨(by show callerA.depth + 41 < _; decide),(by show callerA.units + 10 * 41 + 200 < _; decide),⟨[],rfl,trivial,fun _ h => nomatch h⟩⟩ (fun b o e => e) (Nat.le_refl _) (fun _ h => h.elim) (.cons (show VR C _ _ (.dat (lI ns)) _ from ⟨_,r0,fun _ _ h => h⟩) .nil) _ _ fun val s' k r => ?_
 have r : Rd s'.heap _ val (.bool true) := r
 rw [r.bool_inv]
 refine good_true k hg (raisesW_false ?_) ?_
 ·wrow_none_raised
 ·wrow_post
end
end Mine
theorem PySem.Challenge.cw_nc0003_03_holds : PySem.Challenge.rw_nc0003_03.Holds := by
  exact Mine.t3
