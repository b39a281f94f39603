import PyProof.Rows.All
import Wide.All
import OpenK.AllK
import KE.KRevSl
import Wide.FinOn
import PySem.Challenge.RW_nb0101_01
set_option Elab.async false
set_option maxRecDepth 100000
set_option maxHeartbeats 8000000
set_option linter.unusedVariables false

-- Top1
section
open PySem PySem.W PyProof.Rows
namespace Mine
open_top hd for PySem.Challenge.rw_nb0101_01
end Mine
end

-- M1
section
open PySem PySem.W PySem.W.X PyProof.Rows
namespace Mine
open Sem (wp)

section
variable {prog : Program} {w : World} {A : Around} {c : Code} {fs : List Frame} {s : Shared} {P : End → Shared → Prop} {env : Env}
  {K : Flow → Sem Fin} {H : Value → Sem Fin} {gd : Bool → Bool} {lv : List Value → List Value}

theorem sx_wrap {α : Type} {m : Sem α} {K : α → Sem Fin} {H : Value → Sem Fin} {gd lv}
    (h : wpAny (model prog w) (A.over c fs) m (fun a s' => SegX (model prog w) A c (K a) fs s' P) (fun x s' => SegX (model prog w) A c (H x) fs s' P) s) :
    SegX (model prog w) A c (m.wrap K H gd lv) fs s P := by
  intro Γ p hc hΓ
  subst hc
  exact runs_wrap_of_wp (Φ := fun e s' => e.quiet = true ∧ P e s') K H gd lv m (h (Γ.over fs) p (hΓ.over fs))
    (fun a p' s' h' => h' Γ p' rfl hΓ) (fun x p' s' h' => h' Γ p' rfl hΓ)

theorem sx_bind_wrap {α β : Type} {m : Sem α} {K : α → Sem β} {K' : β → Sem Fin} {H' : Value → Sem Fin} {gd lv}
    (h : wpAny (model prog w) (A.over c fs) m (fun a s' => SegX (model prog w) A c ((K a).wrap K' H' gd lv) fs s' P) (fun x s' => SegX (model prog w) A c (H' x) fs s' P) s) :
    SegX (model prog w) A c ((m >>= K).wrap K' H' gd lv) fs s P := by
  rw [Sem.bind_eq_wrap', Sem.wrap_wrap]; exact sx_wrap h

theorem sx_at {p' : Pos} {k : Unit → Sem Fin} (h : SegX (model prog w) A c (k ()) fs s P) : SegX (model prog w) A c (.at p' k) fs s P :=
  sx_wrap (m := standAt p') (K := k) (H := .raise) (gd := id) (lv := id) (wpAny_standAt h)
theorem sx_point {l : List Value} {k : Unit → Sem Fin} (h : SegX (model prog w) A c (k ()) fs s P) : SegX (model prog w) A c (.point l k) fs s P :=
  sx_wrap (m := point) (K := k) (H := .raise) (gd := id) (lv := fun _ => l) (wpAny_point h)

theorem sx_execs_nil (h : SegX (model prog w) A c (K .next) fs s P) : SegX (model prog w) A c ((execs [] env).wrap K H gd lv) fs s P := h
theorem sx_execs_cons {st : Stmt} {rest : List Stmt}
    (h : SegX (model prog w) A c ((exec st env).wrap (fun f => match f with | .next => (execs rest env).wrap K H gd lv | f => K f) H gd lv) fs s P) :
    SegX (model prog w) A c ((execs (st :: rest) env).wrap K H gd lv) fs s P := by rw [execs_cons_wrap]; exact h

theorem sx_func {body : List Stmt}
    (h : SegX (model prog w) A (.func body env) ((execs body env).wrap (fun f => .pure (.done (.ret (match f with | .ret v => v | _ => .none))))
      (fun e => (leaving env e).wrap (fun _ => .raise e) .raise id id) id id) fs s P) :
    SegX (model prog w) A (.func body env) ((model prog w).den (.func body env)) fs s P := by
  show SegX _ A _ (.point [] fun _ => ((execs body env).onRaise (leaving env)) >>= _) fs s P
  refine sx_point ?_
  rw [Sem.onRaise_eq_wrap, Sem.bind_eq_wrap', Sem.wrap_wrap]
  rw [Sem.wrap_congr (execs body env) _ _ (K' := fun f => .pure (.done (.ret (match f with | .ret v => v | _ => .none))))
    (H' := fun e => (leaving env e).wrap (fun _ => .raise e) .raise id id) (fun f => by cases f <;> rfl)
    (fun e => by rw [Sem.bind_eq_wrap, Sem.wrap_wrap]; rfl)]
  exact h

theorem sx_If {test : Expr} {body orelse : List Stmt} {pos : Pos}
    (h : wpAny (model prog w) (A.over c fs) (isTrue test env (eval test env)) (fun b s' => if b = true then SegX (model prog w) A c ((execs body env).wrap K H gd lv) fs s' P
      else SegX (model prog w) A c ((execs orelse env).wrap K H gd lv) fs s' P) (fun x s' => SegX (model prog w) A c (H x) fs s' P) s) :
    SegX (model prog w) A c ((exec (.If test body orelse pos) env).wrap K H gd lv) fs s P := by
  show SegX _ A c ((standAt pos >>= fun _ => isTrue test env (eval test env) >>= fun b => if b = true then execs body env else execs orelse env).wrap K H gd lv) fs s P
  refine sx_bind_wrap (wpAny_standAt (sx_bind_wrap (wpAny_mono h (fun b s' h' => ?_) fun _ _ e => e)))
  cases b with
  | true => exact h'
  | false => exact h'

theorem sx_Yield {e : Expr} {ypos pos : Pos} (hfs : splitAtGen fs = none) (hgd : gd false = false) (hfg : fs.any Frame.guarded = false)
    (h : wpAny (model prog w) (A.over c fs) (eval e env) (fun v s' => ∀ k l p, k (.send .none) = K .next → P (.susp v false l k c p fs) s')
      (fun x s' => SegX (model prog w) A c (H x) fs s' P) s) (hco : env.scope.isCoroutine = false := by rfl) (hi : interactive env = false := by rfl) :
    SegX (model prog w) A c ((exec (.Expr (.Yield (some e) ypos) pos) env).wrap K H gd lv) fs s P := by
  rw [exec_Expr env _ pos hi rfl]
  show SegX (model prog w) A c (.at pos fun _ => ((eval e env >>= fun v => (standAt ypos >>= fun _ => yieldOut env v)) >>= fun x =>
    dropValue (.Yield (some e) ypos) pos x).wrap K H gd lv) fs s P
  have hy : ∀ v, yieldOut env v = yieldValue v := fun v => by simp only [yieldOut, hco, Bool.false_eq_true, if_false]
  simp only [hy]
  refine sx_at ?_
  rw [Sem.bind_eq_wrap', Sem.bind_eq_wrap', Sem.wrap_wrap, Sem.wrap_wrap]
  refine sx_wrap (wpAny_mono h (fun v s' h' => ?_) fun _ _ x => x)
  refine sx_at ?_
  show SegX _ A c (.yield v (gd (id (id false))) _ _) fs s' P
  rw [show gd (id (id false)) = false from hgd]
  refine s_yield prog w A c fs P s' v _ _ hfs hfg fun p => h' _ _ p rfl

theorem sx_For {target iter : Expr} {body orelse : List Stmt} {pos : Pos}
    (h : wpAny (model prog w) (A.over c fs) (eval iter env) (fun x s₁ => wpAny (model prog w) (A.over c fs) (pyIter x) (fun it s₂ => ∀ p, SegX (model prog w) A (.forLoop target it body orelse env) ((model prog w).den (.forLoop target it body orelse env))
      (.ret (fun r => ((match r with | .ok f => (.pure f : Sem Flow) | .error e => .raise e).onRaise fun (x : Value) => do
        if (← field x 1) == Value.none then unsupported "frame.own-activation:exception-without-traceback"
        setFlight x env.frame).wrap K H gd lv) none (gd false) (lv []) c p [] :: fs) s₂ P)
      (fun x s' => SegX (model prog w) A c (H x) fs s' P) s₁) (fun x s' => SegX (model prog w) A c (H x) fs s' P) s)
    (hs : ∀ x, foldedSetIterable iter env x = pure x) :
    SegX (model prog w) A c ((exec (.For target iter body orelse pos) env).wrap K H gd lv) fs s P := by
  show SegX _ A c ((standAt pos >>= fun _ => eval iter env >>= fun x => foldedSetIterable iter env x >>= fun x => standAt iter.pos >>= fun _ => holding [x] (pyIter x) >>= fun it => runOwn (.forLoop target it body orelse env) env).wrap K H gd lv) fs s P
  refine sx_bind_wrap (wpAny_standAt (sx_bind_wrap (wpAny_mono h (fun x s₁ h₁ => ?_) fun _ _ e => e)))
  rw [hs x]
  refine sx_bind_wrap (wpAny_pure (sx_bind_wrap (wpAny_standAt (sx_bind_wrap (wpAny_holding (wpAny_mono h₁ (fun it s₂ h₂ => ?_) fun _ _ e => e))))))
  exact s_call prog w A c fs P s₂ _ none (gd false) (lv []) _ h₂

/-- the end of a turn -/
abbrev turnK (target : Expr) (it : Value) (body orelse : List Stmt) (env : Env) : Flow → Sem Fin := fun f => match f with
  | .next | .cont => .pure (.again (.forLoop target it body orelse env))
  | .brk => .pure (.done .next)
  | .ret v => .pure (.done (.ret v))
abbrev turnH (env : Env) : Value → Sem Fin := fun e => (do noteFrame e env; theTreesLotGoes e : Sem Unit).wrap (fun _ => .raise e) .raise id id

theorem sx_forLoop {target : Expr} {it : Value} {body orelse : List Stmt}
    (h : wpAny (model prog w) (A.over (.forLoop target it body orelse env) fs) (pyNext it) (fun r s₁ => match r with
      | none => SegX (model prog w) A (.block orelse env) ((model prog w).den (.block orelse env)) fs s₁ P
      | some v => wpAny (model prog w) (A.over (.forLoop target it body orelse env) fs) (letOwnedTupleGo target it v) (fun _ s₂ =>
          wpAny (model prog w) (A.over (.forLoop target it body orelse env) fs) (assign target env v) (fun _ s₃ =>
            SegX (model prog w) A (.forLoop target it body orelse env) ((execs body env).wrap (turnK target it body orelse env) (turnH env) id id) fs s₃ P) (fun _ _ => False) s₂) (fun _ _ => False) s₁)
      (fun _ _ => False) s) :
    SegX (model prog w) A (.forLoop target it body orelse env) ((model prog w).den (.forLoop target it body orelse env)) fs s P := by
  show SegX _ A _ ((forTurn target it body orelse env).onRaise (fun x => do noteFrame x env; theTreesLotGoes x)) fs s P
  unfold forTurn
  rw [Sem.onRaise_eq_wrap]
  refine sx_bind_wrap (wpAny_standAt ?_)
  refine sx_bind_wrap (wpAny_onRaise (wpAny_mono h (fun r s₁ h₁ => ?_) fun _ _ e => e.elim))
  cases r with
  | none => exact s_again prog w A _ fs P s₁ _ rfl h₁
  | some v =>
    refine sx_bind_wrap (wpAny_mono h₁ (fun _ s₂ h₂ => ?_) fun _ _ e => e.elim)
    refine sx_bind_wrap (wpAny_mono h₂ (fun _ s₃ h₃ => ?_) fun _ _ e => e.elim)
    rw [Sem.bind_eq_wrap', Sem.wrap_wrap]
    rw [Sem.wrap_congr (execs body env) _ _ (K' := turnK target it body orelse env) (H' := turnH env) (fun f => by cases f <;> rfl)
      (fun e => by first | exact Sem.bind_eq_wrap _ _ | (show (do noteFrame e env; theTreesLotGoes e : Sem Unit).bind (fun _ => .raise e) = _; rw [Sem.bind_eq_wrap]))]
    exact h₃
end
end Mine
end

-- M2
section
open PySem PySem.W PySem.W.X PyProof.Rows
namespace Mine
open Sem (wp)

/-- the top, as every call finds it -/
structure Base (w : World) (h : Heap) : Prop where
  k : (Mine.hd.heap_39 w.params).In h
  b : ∃ mb, h.Ns builtinsNs mb ∧ ∀ x : Str, x ≠ "__name__" → mb x = bootBuiltins x
  lim : h.NoLimit
theorem Base.keeps {w : World} {h h' : Heap} (B : Base w h) (hk : ∀ b o, h.get? b = some o → h'.get? b = some o) : Base w h' :=
  ⟨fun a o e => hk _ _ (B.k a o e), let ⟨mb, x, y⟩ := B.b; ⟨mb, x.keeps hk, y⟩, B.lim.keeps hk⟩

def Goes (M : Model) (A : Around) (gs : GenState) (s : Shared) (P : End → Shared → Prop) : Prop := match gs with
  | .fresh c => SegX M A c (M.den c) [] s P
  | .suspended k _ c _ fs _ => SegX M A c (k (.send .none)) fs s P
  | _ => False

section
variable {prog : Program} {w : World} {A : Around} {s : Shared} {P : End → Shared → Prop}

theorem Goes.monoQ {gs : GenState} {P' : End → Shared → Prop} (x : Goes (model prog w) A gs s P) (h : ∀ e s', e.quiet = true → P e s' → P' e s') : Goes (model prog w) A gs s P' := by
  cases gs with
  | fresh c => exact fun Γ p hc hΓ => let ⟨e, s', hr, hq, hp⟩ := x Γ p hc hΓ; ⟨e, s', hr, hq, h e s' hq hp⟩
  | suspended k l c q fs cl => exact fun Γ p hc hΓ => let ⟨e, s', hr, hq, hp⟩ := x Γ p hc hΓ; ⟨e, s', hr, hq, h e s' hq hp⟩
  | running => exact x.elim
  | finished => exact x.elim

theorem wp_resume {α : Type} {g : Nat} {gs : GenState} {l : List Value} {k : GenResult → Sem α} {Q : α → Shared → Prop} {E : Value → Shared → Prop} (hg : s.gens[g]? = some gs)
    (hgo : Goes (model prog w) A gs (s.setGen g .running) P)
    (hP : ∀ e s₁, e.genState.bare = true → P e s₁ → wpAny (model prog w) A (k e.result) Q E (s₁.setGen g e.genState)) :
    wpAny (model prog w) A (.resume g (.send .none) l k) Q E s := by
  have h2 := Goes.monoQ (P' := fun e s₁ => ∀ (Γ : PySem.Ctx) (p : Pos), Γ.In A → Sem.wp (model prog w) Γ (k e.result) (fun a _ s' => Q a s') (fun e _ s' => E e s') p (s₁.setGen g e.genState)) hgo
    (fun e s' hq hp => hP e s' (End.bare_of_quiet hq) hp)
  cases gs with
  | fresh c => exact wake_any α prog w hg (.inl ⟨rfl, rfl, rfl, rfl⟩) (fun Γ => Γ.In A) (fun _ h => h) h2
  | suspended k₀ l₀ c₀ p₀ fs₀ cl => exact wake_any α prog w hg (.inr ⟨k₀, l₀, p₀, cl, rfl, rfl⟩) (fun Γ => Γ.In A) (fun _ h => h) h2
  | running => exact hgo.elim
  | finished => exact hgo.elim
end

def Agree (fp : List Addr) (h h' : Heap) : Prop := ∀ b ∈ fp, ∀ o, h.get? b = some o → h'.get? b = some o

/-- what a turn leaves: all but fp -/
structure Turned (fp : List Addr) (s s' : Shared) : Prop where
  keep : ∀ b o, b ∉ fp → s.heap.get? b = some o → s'.heap.get? b = some o
  gens : s'.gens = s.gens
  os : s'.os = s.os
theorem Turned.refl (fp : List Addr) (s : Shared) : Turned fp s s := ⟨fun _ _ _ e => e, rfl, rfl⟩
theorem Turned.trans {fp : List Addr} {s s' s'' : Shared} (x : Turned fp s s') (y : Turned fp s' s'') : Turned fp s s'' :=
  ⟨fun b o hb e => y.keep b o hb (x.keep b o hb e), y.gens.trans x.gens, y.os.trans x.os⟩
theorem Turned.to {fp : List Addr} {s s' : Shared} {h : Heap} {tk : Nat} (x : Turned fp s s') (hk : ∀ b o, b ∉ fp → s'.heap.get? b = some o → h.get? b = some o) : Turned fp s { s' with heap := h, toks := tk } :=
  ⟨fun b o hb e => hk b o hb (x.keep b o hb e), x.gens, x.os⟩

/-- room to call on -/
structure Room (A : Around) : Prop where
  hh : A.handled = none
  depth : A.depth < 900
  units : A.units < 5000
theorem Room.in1 {A : Around} (h : Room A) (hu : A.units < 4999) : Room A.in1 := ⟨h.hh, h.depth, by show A.units + 1 < 5000; omega⟩

def Yl (prog : Program) (w : World) : List Addr → List (Nat × Str) → GenState → Heap → Prop
  | fp, [], gs, h => gs.bare = true ∧ ∀ A s, A.handled = none → A.depth < 950 → Agree fp h s.heap → Base w s.heap →
      Goes (model prog w) A gs s (fun e s' => e = .ret (.ok (.ret .none)) ∧ Turned fp s s')
  | fp, y :: ys, gs, h => gs.bare = true ∧ ∀ A s, A.handled = none → A.depth < 950 → Agree fp h s.heap → Base w s.heap →
      Goes (model prog w) A gs s (fun e s' => ∃ T t u fp', e.result = .yielded (.ref T) ∧ s'.heap.IsTuple T #[.int y.1 t, .str y.2 u] ∧ T ∉ fp' ∧ (∀ b ∈ fp', b ∈ fp ∨ s.heap.get? b = none) ∧ Turned fp s s' ∧ Yl prog w fp' ys e.genState s'.heap)

theorem Yl.bare {prog : Program} {w : World} {fp : List Addr} {ys : List (Nat × Str)} {gs : GenState} {h : Heap} (x : Yl prog w fp ys gs h) : gs.bare = true := by
  cases ys <;> exact x.1
theorem Agree.trans {fp : List Addr} {h h' h'' : Heap} (x : Agree fp h h') (y : Agree fp h' h'') : Agree fp h h'' := fun b hb o e => y b hb o (x b hb o e)
theorem Yl.agree {prog : Program} {w : World} {fp : List Addr} {ys : List (Nat × Str)} {gs : GenState} {h h' : Heap} (x : Yl prog w fp ys gs h) (k : Agree fp h h') : Yl prog w fp ys gs h' := by
  cases ys with
  | nil => exact ⟨x.1, fun A s a b c d => x.2 A s a b (k.trans c) d⟩
  | cons y ys => exact ⟨x.1, fun A s a b c d => x.2 A s a b (k.trans c) d⟩

section
variable {prog : Program} {w : World} {A : Around} {E : Value → Shared → Prop} {s : Shared}

/-- the generator g at a, with ys still to come -/
structure GenAt (prog : Program) (w : World) (fp : List Addr) (a : Addr) (g : Nat) (ys : List (Nat × Str)) (s : Shared) : Prop where
  obj : s.heap.IsGen a g
  st : ∃ gs, s.gens[g]? = some gs ∧ Yl prog w fp ys gs s.heap

theorem GenAt.to {fp : List Addr} {a : Addr} {g : Nat} {ys : List (Nat × Str)} {h : Heap} {tk : Nat} (G : GenAt prog w fp a g ys s) (ha : ∀ o, s.heap.get? a = some o → h.get? a = some o) (hk : Agree fp s.heap h) :
    GenAt prog w fp a g ys { s with heap := h, toks := tk } :=
  ⟨let ⟨o, nm, qn, ho, r⟩ := G.obj; ⟨o, nm, qn, ha o ho, r⟩, let ⟨gs, e, y⟩ := G.st; ⟨gs, e, y.agree hk⟩⟩

theorem next_item {fp : List Addr} {a : Addr} {g : Nat} {y : Nat × Str} {ys : List (Nat × Str)} {Q : Option Value → Shared → Prop} (hA : Room A) (B : Base w s.heap) (G : GenAt prog w fp a g (y :: ys) s) (haf : a ∉ fp)
    (hQ : ∀ T t u s' gs fp', gs.bare = true → s'.heap.IsTuple T #[.int y.1 t, .str y.2 u] → T ∉ fp' → (∀ b ∈ fp', b ∈ fp ∨ s.heap.get? b = none) → (∀ b o, b ∉ fp → s.heap.get? b = some o → s'.heap.get? b = some o) →
      s'.gens = s.gens.setIfInBounds g gs → s'.os = s.os → GenAt prog w fp' a g ys s' → Q (some (.ref T)) s') :
    wpAny (model prog w) A (pyNext (.ref a)) Q E s := by
  obtain ⟨hg, gs, hgs, hy⟩ := G
  unfold pyNext
  refine wpAny_bind (wpAny_attempt (wpAny_callSpecial?_slot (name := Str.ofString "__next__") hg.typeIs slot_gen_next
    (wpAny_call_entry slot_gen_next hg.typeIs entry_gen_next ?_ (args_gen_next _))))
  show wpAny _ A.in1 (Builtin.Generator.genWake (.ref a) (.send .none)) _ _ s
  unfold Builtin.Generator.genWake
  refine wpAny_bind (wpAny_holding (wpAny_genNumber hg (wpAny_bind (wpAny_genState hgs ?_))))
  have hgo := hy.2 A.in1 (s.setGen g .running) hA.hh (Nat.lt_of_lt_of_le hA.depth (by decide)) (fun _ _ _ e => e) B
  have fin : ∀ (e : End) (s₁ : Shared), e.genState.bare = true → (∃ T t u fp', e.result = .yielded (.ref T) ∧ s₁.heap.IsTuple T #[.int y.1 t, .str y.2 u] ∧ T ∉ fp' ∧ (∀ b ∈ fp', b ∈ fp ∨ s.heap.get? b = none) ∧ Turned fp (s.setGen g .running) s₁ ∧ Yl prog w fp' ys e.genState s₁.heap) →
      ∃ T, e.result = .yielded (.ref T) ∧ Q (some (.ref T)) (s₁.setGen g e.genState) := by
    rintro e s₁ hb ⟨T, t, u, fp', he, hT, hTf, hff, ht, hy'⟩
    have hlen : g < s.gens.size := (Array.getElem?_eq_some_iff.mp hgs).1
    refine ⟨T, he, hQ T t u _ e.genState fp' hb hT hTf hff (fun b o hb e => ht.keep b o hb e) ?_ ht.os ⟨?_, e.genState, ?_, hy'⟩⟩
    · show s₁.gens.setIfInBounds g _ = _
      rw [ht.gens]
      show (s.gens.setIfInBounds g .running).setIfInBounds g _ = _
      apply Array.ext'
      simp
    · exact let ⟨o, nm, qn, ho, r⟩ := hg; ⟨o, nm, qn, ht.keep a o haf ho, r⟩
    · show (s₁.gens.setIfInBounds g _)[g]? = _
      rw [ht.gens]
      show ((s.gens.setIfInBounds g .running).setIfInBounds g _)[g]? = _
      simp [hlen]
  cases gs with
  | running => exact hgo.elim
  | finished => exact hgo.elim
  | _ =>
    refine wpAny_bind (wpAny_roomToWake B.lim (Nat.lt_of_lt_of_le hA.depth (by decide)) ?_)
    show wpAny _ A.in1 (.resume g (.send .none) [] _) _ _ s
    refine wp_resume hgs hgo fun e s₁ hb he => ?_
    obtain ⟨T, h1, h2⟩ := fin e s₁ hb he
    rw [h1]
    exact wpAny_pure ⟨_, rfl, wpAny_pure h2⟩

theorem next_done {fp : List Addr} {a : Addr} {g : Nat} {Q : Option Value → Shared → Prop} (hA : Room A) (B : Base w s.heap) (G : GenAt prog w fp a g [] s)
    (hQ : ∀ s' gs, gs.bare = true → (∀ b o, b ∉ fp → s.heap.get? b = some o → s'.heap.get? b = some o) → s'.gens = s.gens.setIfInBounds g gs → s'.os = s.os → Q none s') :
    wpAny (model prog w) A (pyNext (.ref a)) Q E s := by
  obtain ⟨hg, gs, hgs, hy⟩ := G
  unfold pyNext
  refine wpAny_bind (wpAny_attempt (wpAny_callSpecial?_slot (name := Str.ofString "__next__") hg.typeIs slot_gen_next
    (wpAny_call_entry slot_gen_next hg.typeIs entry_gen_next ?_ (args_gen_next _))))
  show wpAny _ A.in1 (Builtin.Generator.genWake (.ref a) (.send .none)) _ _ s
  unfold Builtin.Generator.genWake
  refine wpAny_bind (wpAny_holding (wpAny_genNumber hg (wpAny_bind (wpAny_genState hgs ?_))))
  have hgo := hy.2 A.in1 (s.setGen g .running) hA.hh (Nat.lt_of_lt_of_le hA.depth (by decide)) (fun _ _ _ e => e) B
  cases gs with
  | running => exact hgo.elim
  | finished => exact hgo.elim
  | _ =>
    refine wpAny_bind (wpAny_roomToWake B.lim (Nat.lt_of_lt_of_le hA.depth (by decide)) ?_)
    show wpAny _ A.in1 (.resume g (.send .none) [] _) _ _ s
    refine wp_resume hgs hgo fun e s₁ hb he => ?_
    obtain ⟨rfl, ht⟩ := he
    show wpAny _ A.in1 (newExc (.type "StopIteration") [] >>= _) _ _ _
    refine wpAny_bind ?_
    simp only [newExc, newTuple]
    refine wpAny_bind (wpAny_newObj_type ?_ (by size_fits))
    refine wpAny_bind (m := firstArgMember _ _) (wpAny_of_eq (a := Value.none) (by first | rfl | (simp only [firstArgMember]; rfl)) ?_)
    refine wpAny_newObj_type ?_ (by size_fits)
    simp only [raiseNew]
    refine wpAny_bind (wpAny_bind (wpAny_handled ?_))
    rw [show A.in1.handled = none from hA.hh]
    refine wpAny_throw ?_
    refine wpAny_bind (wpAny_isInstance (T := "StopIteration") (b := true) ⟨_, Heap.get?_push_size _ rfl, rfl⟩ isSubtype_stop ?_)
    refine wpAny_pure (hQ _ .finished rfl (fun b o hb e => Heap.get?_push_of_some _ (Heap.get?_push_of_some _ (ht.keep b o hb e))) ?_ ht.os)
    show s₁.gens.setIfInBounds g _ = _
    rw [ht.gens]
    show (s.gens.setIfInBounds g .running).setIfInBounds g _ = _
    apply Array.ext'
    simp
    rfl
end
end Mine
end

-- M3
section
open PySem PySem.W PySem.W.X PyProof.Rows
namespace Mine
open Sem (wp)

noncomputable def gEntries (w : World) : Array DictEntry := match (Mine.hd.heap_39 w.params).lookup 3 with
  | some ⟨_, _, .dict es _, _⟩ => es
  | _ => #[]
theorem strKeys_of {es : Array DictEntry} (h : (es.toList.all fun e => match e.key with | .str _ _ => true | _ => false) = true) : StrKeys es := by
  intro e he
  have := List.all_eq_true.mp h e (by simpa using he)
  cases hk : e.key with
  | str n t => exact ⟨n, t, rfl⟩
  | _ => rw [hk] at this; cases this
theorem gKeys (w : World) : StrKeys (gEntries w) := strKeys_of rfl
theorem Base.below {w : World} {h h₁ h' : Heap} (B : Base w h) (B₁ : Base w h₁) (hk : ∀ b o, b < h.objs.size → h₁.get? b = some o → h'.get? b = some o) : Base w h' :=
  ⟨fun a o e => hk _ _ (Heap.lt_size (B.k a o e)) (B₁.k a o e), let ⟨mb, x, y⟩ := B₁.b; ⟨mb, x.at' fun o e => hk _ o (let ⟨_, z, _⟩ := B.b; z.lt) e, y⟩,
    let ⟨mc, x, y⟩ := B₁.lim; ⟨mc, x.at' fun o e => hk _ o (let ⟨_, z, _⟩ := B.lim; z.lt) e, y⟩⟩
theorem Base.g {w : World} {h : Heap} (B : Base w h) : h.Ns mainGlobals (nsFind (gEntries w)) := ⟨_, _, _, B.k 3 _ rfl, rfl, gKeys w, fun _ => rfl⟩

section
variable {prog : Program} {w : World} {A : Around} {E : Value → Shared → Prop} {s : Shared} {env : Env}

theorem nm_glob {x : Str} {pos : Pos} {v : Value} {Q : Value → Shared → Prop} (B : Base w s.heap) (hv : nsFind (gEntries w) x = some v) (h : Q v s)
    (hk : env.scope.kind = .function := by rfl) (hx : env.kindOf x = some .globalImplicit := by rfl) (hg : env.globals = mainGlobals := by rfl) (hd : (x == ("__debug__" : Str)) = false := by decide) :
    wpAny (model prog w) A (eval (.Name x pos) env) Q E s :=
  Calls.Name_function_global hk hx (Calls.loadGlobal_global (hg ▸ B.g) hv h) hd
theorem nm_boot {x : Str} {pos : Pos} {v : Value} {Q : Value → Shared → Prop} (B : Base w s.heap) (hv : bootBuiltins x = some v) (h : Q v s) (hm : nsFind (gEntries w) x = none := by rfl) (hn : x ≠ "__name__" := by decide)
    (hk : env.scope.kind = .function := by rfl) (hx : env.kindOf x = some .globalImplicit := by rfl) (hg : env.globals = mainGlobals := by rfl) (hb : env.builtins = builtinsNs := by rfl) (hd : (x == ("__debug__" : Str)) = false := by decide) :
    wpAny (model prog w) A (eval (.Name x pos) env) Q E s :=
  let ⟨_, hmb, hall⟩ := B.b
  Calls.Name_function_global hk hx (Calls.loadGlobal_builtin (hg ▸ B.g) hm (hb ▸ hmb) ((hall x hn).trans hv) h) hd
theorem nm_loc {x : Str} {pos : Pos} {v : Value} {m : Str → Option Value} {Q : Value → Shared → Prop} (hn : s.heap.Ns env.locals m) (hv : m x = some v) (h : Q v s)
    (hk : env.scope.kind = .function := by rfl) (hl : env.kindOf x = some .local := by rfl) (hd : (x == ("__debug__" : Str)) = false := by decide) :
    wpAny (model prog w) A (eval (.Name x pos) env) Q E s := wpAny_Name (wpAny_loadName_local hk hl hn hv h) hd
theorem st_loc {x : Str} {v : Value} {m : Str → Option Value} {Q : Unit → Shared → Prop} (hn : s.heap.Ns env.locals m)
    (h : ∀ h', h'.Ns env.locals (fun y => if y = x then some v else m y) → Heap.SameBut env.locals s.heap h' → Q () { s with heap := h', toks := s.toks + 1 })
    (hk : env.scope.kind = .function := by rfl) (hl : env.kindOf x = some .local := by rfl) : wpAny (model prog w) A (storeName env x v) Q E s :=
  wpAny_storeName_local hl hn h (by rw [hk]; rfl)
end

/-- what _iter_escaped_chars yields (no backslash at the end) -/
def escGo : Nat → Bool → List Nat → List (Nat × Str)
  | _, _, [] => []
  | p, true, c :: r => (p, ⟨#[92, c]⟩) :: escGo (p + 1) false r
  | p, false, c :: r => if c = 92 then escGo (p + 1) true r else (p, ⟨#[c]⟩) :: escGo (p + 1) false r
def escEnd : Bool → List Nat → Bool
  | b, [] => b
  | true, _ :: r => escEnd false r
  | false, c :: r => escEnd (decide (c = 92)) r

theorem upd_ne {m : Str → Option Value} {x y : Str} {v : Option Value} {u : Option Value} (h : m x = u) (ne : x ≠ y) : (fun z => if z = y then v else m z) x = u := by
  show (if x = y then v else m x) = u
  rw [if_neg ne]; exact h
theorem upd_eq {m : Str → Option Value} {x : Str} {v : Option Value} : (fun z => if z = x then v else m z) x = v := if_pos rfl

/-- the end of a turn of the generator, ys still to come -/
def YP (prog : Program) (w : World) (fp : List Addr) (ys : List (Nat × Str)) (s : Shared) (e : End) (s' : Shared) : Prop := match ys with
  | [] => e = .ret (.ok (.ret .none)) ∧ Turned fp s s'
  | y :: ys => ∃ T t u fp', e.result = .yielded (.ref T) ∧ s'.heap.IsTuple T #[.int y.1 t, .str y.2 u] ∧ T ∉ fp' ∧ (∀ b ∈ fp', b ∈ fp ∨ s.heap.get? b = none) ∧ Turned fp s s' ∧ Yl prog w fp' ys e.genState s'.heap
theorem Yl_of {prog : Program} {w : World} {fp : List Addr} {ys : List (Nat × Str)} {gs : GenState} {h : Heap} (hb : gs.bare = true)
    (x : ∀ A s, A.handled = none → A.depth < 950 → Agree fp h s.heap → Base w s.heap → Goes (model prog w) A gs s (YP prog w fp ys s)) : Yl prog w fp ys gs h := by
  cases ys with
  | nil => exact ⟨hb, x⟩
  | cons y ys => exact ⟨hb, x⟩

section
variable {prog : Program} {w : World} {A : Around} {E : Value → Shared → Prop} {s : Shared}

theorem assign_pair {env : Env} {x y : Str} {px py pt : Pos} {k : Nat} {T : Addr} {v₁ v₂ : Value} {m : Str → Option Value} {Q : Unit → Shared → Prop} (hh : A.handled = none) (hT : s.heap.IsTuple T #[v₁, v₂]) (hn : s.heap.Ns env.locals m)
    (hQ : ∀ h' tk, h'.Ns env.locals (fun z => if z = y then some v₂ else if z = x then some v₁ else m z) → (∀ b o, b ≠ env.locals → s.heap.get? b = some o → h'.get? b = some o) → Q () { s with heap := h', toks := tk })
    (hk : env.scope.kind = .function := by rfl) (hx : env.kindOf x = some .local := by rfl) (hy : env.kindOf y = some .local := by rfl) :
    wpAny (model prog w) A (assign (.Tuple [.Name x px, .Name y py] k pt) env (.ref T)) Q E s := by
  refine wpAny_assign_Tuple hh hT rfl rfl fun h₁ hx₁ => ?_
  have old : ∀ b o, s.heap.get? b = some o → h₁.get? b = some o := fun b o e => hx₁ b o (Nat.ne_of_lt (Heap.lt_size e)) e
  show wpAny _ A (do holding [v₂] (assign (.Name x px) env v₁); do holding [] (assign (.Name y py) env v₂); pure ()) _ _ _
  refine wpAny_bind (wpAny_holding (wpAny_assign_Name (st_loc (hn.keeps old) (fun h₂ hn₂ hs₂ => ?_) hk hx)))
  refine wpAny_bind (wpAny_holding (wpAny_assign_Name (st_loc hn₂ (fun h₃ hn₃ hs₃ => wpAny_pure ?_) hk hy)))
  exact hQ h₃ _ hn₃ fun b o hb e => hs₃.extBut b o hb (hs₂.extBut b o hb (old b o e))

theorem enumW {it e : Addr} {x : Str} {t : Tok} (hh : A.handled = none) (hei : e ≠ it) :
    WalksT prog w A e [e, it] [e, it] x.cps.size (fun i vals => ∃ t v, (∃ c u, x.cps[i]? = some c ∧ v = .str ⟨#[c]⟩ u) ∧ vals = #[.int i t, v])
      (fun i h => (∃ old, IsEnum h e it i old) ∧ h.IsStrIter it "str_ascii_iterator" x t i) (fun i T h => (∃ x, IsEnumOut h e it ((i : Int) + 1) x T) ∧ h.IsStrIter it "str_ascii_iterator" x t (i + 1) ∧ T ≠ e ∧ T ≠ it) :=
  WalksT.enumerateD (Draws.strAscii (A := A.in1) hh it x t) e hei (by simpa using hei) (by simp)

theorem iter_call {x : Str} {t : Tok} {Q : Value → Shared → Prop} (hA : Room A) (B : Base w s.heap) (hx : x.cps.all (· < 128) = true) (hend : escEnd false x.cps.toList = false)
    (hQ : ∀ a fp s' gs, GenAt prog w fp a s.gens.size (escGo 0 false x.cps.toList) s' → gs.bare = true → s'.gens = s.gens.push gs → s'.os = s.os → (∀ b o, s.heap.get? b = some o → s'.heap.get? b = some o) → (∀ b ∈ fp, s.heap.get? b = none) → a ∉ fp → s.heap.get? a = none → (∀ b ∈ fp, ∃ o, s'.heap.get? b = some o) → Q (.ref a) s') :
    wpAny (model prog w) A (call (.ref 21) [.str x t]) Q E s := by
  refine wpAny_call (codeAny_call_generator (Nat.lt_of_lt_of_le hA.depth (by decide)) (B.k 21 _ rfl) rfl rfl rfl rfl (codeRec_of B.k rfl) ?_)
  refine wpAny_of_eq (a := [(Str.ofString "addr", .str x t)]) (by rfl) ?_
  refine wpAny_newFunctionEnv (by decide) (locs rfl) (fun h' hns hsb => ⟨B.lim.fresh _ hsb, ?_⟩)
  generalize hH : h' = H at *
  have keep : ∀ b o, s.heap.get? b = some o → H.get? b = some o := fun b o e => hsb.extBut b o (Nat.ne_of_lt (Heap.lt_size e)) (Heap.get?_push_of_some _ e)
  have none_of : ∀ b, s.heap.objs.size ≤ b → s.heap.get? b = none := fun b hb => by
    cases e : s.heap.get? b with
    | none => rfl
    | some o => exact absurd (Heap.lt_size e) (Nat.not_lt.mpr hb)
  have hsz : H.objs.size = s.heap.objs.size + 1 := by rw [hsb.1, Heap.size_push]
  refine hQ _ [s.heap.objs.size] _ _ ⟨⟨_, _, _, Heap.get?_push_size _ rfl, rfl, rfl, rfl⟩, _, Array.getElem?_push_size .., ?_⟩ rfl rfl rfl (fun b o e => Heap.get?_push_of_some _ (keep b o e)) (by simpa using none_of _ (Nat.le_refl _)) ?_ ?_ ?_
  · refine Yl_of rfl fun A s₀ hh hd hag B₀ => ?_
    show SegX _ A _ ((model prog w).den _) [] s₀ _
    refine sx_func ?_
    have hns₀ : s₀.heap.Ns s.heap.objs.size (fun y => ([(Str.ofString "addr", Value.str x t)] : List (Str × Value)).reverse.lookup y) := (hns.push _).at' fun o e => hag _ (.head _) o e
    refine sx_execs_cons (sx_wrap (wpAny_Assign_Name (wpAny_Constant_int (st_loc hns₀ fun h1 hn1 hs1 => ?_))))
    refine sx_execs_cons (sx_wrap (wpAny_Assign_Name (wpAny_Constant_bool (st_loc hn1 fun h2 hn2 hs2 => ?_))))
    have k2 : ∀ b o, b ≠ s.heap.objs.size → s₀.heap.get? b = some o → h2.get? b = some o := fun b o hb e => hs2.extBut b o hb (hs1.extBut b o hb e)
    have B2 : Base w h2 := B.below B₀ fun b o hb e => k2 b o (Nat.ne_of_lt hb) e
    refine sx_execs_cons (sx_For ?_ (fun _ => rfl))
    refine Call_ (nm_boot B2 boot_enumerate (PyProof.Rows.callWith_type1 ?_))
    refine spliced_more (nm_loc hn2 rfl (spliced_none ?_))
    refine call_enumerate_str fun h3 he3 hi3 hz3 hk3 => ?_
    refine wpAny_pyIter_enum he3 fun p => ?_
    have hL2 : s.heap.objs.size < h2.objs.size := hn2.lt
    have hLs : s.heap.objs.size < s₀.heap.objs.size := hns₀.lt
    have hz2 : h2.objs.size = s₀.heap.objs.size := by rw [hs2.1]; exact hs1.1
    rw [show strIterType x = "str_ascii_iterator" by simp [strIterType, hx]] at hi3
    dsimp only at he3 hi3 hk3 hz3
    generalize hL : s.heap.objs.size = L at *
    generalize hit : h2.objs.size = it at *
    generalize he : it + 1 = e at *
    have hLe : L ≠ e := by omega
    have hLi : L ≠ it := by omega
    have hei : e ≠ it := by omega
    have none₀ : ∀ b, s₀.heap.objs.size ≤ b → s₀.heap.get? b = none := fun b hb => by
      cases e : s₀.heap.get? b with
      | none => rfl
      | some o => exact absurd (Heap.lt_size e) (Nat.not_lt.mpr hb)
    refine (?main : ∀ (cs : List Nat) (i : Nat) (b : Bool) (A : Around) (s₁ : Shared) (m : Str → Option Value) (s₀ : Shared) (fp₀ : List Addr), A.handled = none → A.depth < 950 →
      x.cps.toList.drop i = cs → i ≤ x.cps.size → escEnd b cs = false → s₁.heap.Ns L m → m "escape" = some (.bool b) → ((∃ old, IsEnum s₁.heap e it i old) ∧ s₁.heap.IsStrIter it "str_ascii_iterator" x t i) →
      Turned fp₀ s₀ s₁ → (∀ b ∈ [L, e, it], b ∈ fp₀ ∨ s₀.heap.get? b = none) → SegX (model prog w) A ?c ?t ?fs s₁ (YP prog w fp₀ (escGo i b cs) s₀)) x.cps.toList 0 false A _ ?m s₀ [L] hh hd rfl (Nat.zero_le _) hend
      ?h1 ?h2 ?h3 ?h4 ?h5
    case main =>
      intro cs
      induction cs with
      | nil =>
        intro i b A s₁ m s₀ fp₀ hh hd hcs hi hend hn hb hst htn hfp
        have hin : i = x.cps.size := by
          have := congrArg List.length hcs
          simp at this
          omega
        subst hin
        have hb' : b = false := hend
        subst hb'
        refine sx_forLoop ?_
        refine (enumW (it := it) (e := e) (x := x) (t := t) (by exact hh) hei).done _ _ _ hst fun h' tk hk => ?_
        have hn' : h'.Ns L m := hn.at' fun o q => hk L o (by simp [hLe, hLi]) q
        refine s_pop prog w A _ _ _ _ (.ok .next) _ rfl _ _ _ _ _ _ _ ?_
        refine sx_execs_cons (sx_If (isTrue_plain (nm_loc hn' hb (wpAny_truthy_bool ?_))))
        refine sx_execs_nil (sx_execs_nil ?_)
        refine s_end prog w A _ _ _ (.ok (.ret .none)) _ rfl ?_
        exact ⟨rfl, fun b o hb q => hk b o (fun hm => by
          rcases hfp b (List.mem_cons_of_mem _ hm) with h1 | h1
          · exact hb h1
          · rw [h1] at q; cases q) (htn.keep b o hb q), htn.gens, htn.os⟩
      | cons c r ih =>
        intro i b A s₁ m s₀ fp₀ hh hd hcs hi hend hn hb hst htn hfp
        have hlt : i < x.cps.size := by
          have := congrArg List.length hcs
          simp at this
          omega
        have hcr : x.cps.toList.drop (i + 1) = r := by
          have := congrArg List.tail hcs
          rwa [List.tail_drop] at this
        have hci : x.cps[i]? = some c := by
          have := congrArg (·[0]?) hcs
          simpa using this
        refine sx_forLoop ?_
        have out : ∀ b o, b ∉ fp₀ → s₀.heap.get? b = some o → b ≠ L ∧ b ≠ e ∧ b ≠ it := fun b o hb q => by
          refine ⟨?_, ?_, ?_⟩ <;> (rintro rfl; rcases hfp b (by simp) with h1 | h1; exact hb h1; rw [h1] at q; cases q)
        refine (enumW (it := it) (e := e) (x := x) (t := t) (by exact hh) hei).item i _ _ _ hlt hst fun T vals h₁ tk₁ hPt hTsz hT hmid hk₁ => ?_
        obtain ⟨tp, v, ⟨c', u, hc', rfl⟩, rfl⟩ := hPt
        obtain rfl : c = c' := Option.some.inj (hci.symm.trans hc')
        refine (enumW (it := it) (e := e) (x := x) (t := t) (by exact hh) hei).go _ _ _ i T _ _ _ hmid fun h₂ hst₂ hk₂ => ?_
        have hT₂ : h₂.IsTuple T #[.int i tp, .str ⟨#[c]⟩ u] := let ⟨o, q, r⟩ := hT; ⟨o, hk₂ T o (by simpa using hmid.2.2) q, r⟩
        have hn₂ : h₂.Ns L m := hn.at' fun o q => hk₂ L o (by simp [hLe, hLi]) (hk₁ L o (by simp [hLe, hLi]) q)
        refine assign_pair hh hT₂ hn₂ fun h₃ tk₃ hn₃ hk₃ => ?_
        have hst₃ : (∃ old, IsEnum h₃ e it ((i + 1 : Nat) : Int) old) ∧ h₃.IsStrIter it "str_ascii_iterator" x t (i + 1) := (enumW (prog := prog) (w := w) (x := x) (t := t) hh hei).frame (i + 1) h₂ h₃ hst₂ fun b hb o q => hk₃ b o (by
          simp only [List.mem_cons, List.not_mem_nil, or_false] at hb
          rcases hb with rfl | rfl
          · exact Ne.symm hLe
          · exact Ne.symm hLi) q
        have htn₃ : Turned fp₀ s₀ { s₁ with heap := h₃, toks := tk₃ } := ⟨fun b o hb q => hk₃ b o (out b o hb q).1 (hk₂ b o (by simp [(out b o hb q).2.1, (out b o hb q).2.2]) (hk₁ b o (by simp [(out b o hb q).2.1, (out b o hb q).2.2]) (htn.keep b o hb q))), htn.gens, htn.os⟩
        have hb₃ : (if Str.ofString "escape" = Str.ofString "ch" then some (Value.str ⟨#[c]⟩ u) else if Str.ofString "escape" = Str.ofString "pos" then some (Value.int i tp) else m "escape") = some (.bool b) := by
          rw [if_neg (by decide), if_neg (by decide)]; exact hb
        refine sx_execs_cons (sx_If (isTrue_plain (nm_loc hn₃ hb₃ (wpAny_truthy_bool ?_))))
        have out3 : ∀ b, b ∉ [L, e, it] → b ≠ L ∧ b ≠ e ∧ b ≠ it := fun b hb => by
          simp only [List.mem_cons, List.not_mem_nil, or_false, not_or] at hb; exact hb
        have apart : h₃.objs.size ∉ [L, e, it] := by
          have h0 : L < h₃.objs.size := hn₃.lt
          have h1 : e < h₃.objs.size := let ⟨⟨_, h1⟩, _⟩ := hst₃; Heap.lt_size h1
          have h2 : it < h₃.objs.size := let ⟨_, _, h2, _⟩ := hst₃; Heap.lt_size h2
          simp only [List.mem_cons, List.not_mem_nil, or_false, not_or]
          exact ⟨Nat.ne_of_gt h0, Nat.ne_of_gt h1, Nat.ne_of_gt h2⟩
        cases b with
        | true =>
          rw [if_pos rfl]
          refine sx_execs_cons (sx_Yield rfl rfl rfl ?_)
          refine Tuple_ (spliced_more (nm_loc hn₃ rfl (spliced_more (wpAny_BinOp (wpAny_Constant_str (nm_loc hn₃ rfl (add_str fun t' tk' => ?_)))))))
          refine spliced_none (wpAny_newTuple fun k l p hk => ?_)
          refine ⟨_, tp, t', [L, e, it], rfl, ⟨_, Heap.get?_push_size _ rfl, rfl, _, rfl⟩, apart, hfp, htn₃.to (tk := tk') fun b o hb q => Heap.get?_push_of_some _ q, ?_⟩
          refine Yl_of rfl fun A' s' hh' hd' hag' B' => ?_
          show SegX _ A' _ (k (.send .none)) _ s' _
          rw [hk]
          have hn' := (hn₃.push { cls := .type "tuple", data := .seq [Value.int i tp, Value.str (Str.ofString "\\" ++ ⟨#[c]⟩) t'].toArray }).at' fun o q => hag' L (by simp) o q
          have hst' := (enumW (prog := prog) (w := w) (x := x) (t := t) hh hei).frame (i + 1) h₃ s'.heap hst₃ fun b hb o q => hag' b (List.mem_cons_of_mem _ hb) o (Heap.get?_push_of_some _ q)
          refine sx_execs_cons (sx_wrap (wpAny_Assign_Name (wpAny_Constant_bool (st_loc hn' fun h5 hn5 hs5 => ?_))))
          refine sx_execs_nil (s_again prog w A' _ _ _ _ _ rfl ?_)
          refine ih (i + 1) false A' _ _ s' [L, e, it] hh' hd' hcr hlt hend hn5 (if_pos rfl) ((enumW (prog := prog) (w := w) (x := x) (t := t) hh hei).frame (i + 1) s'.heap h5 hst' fun b hb o q => hs5.extBut b o ?_ q) ⟨fun b o hb q => hs5.extBut b o (out3 b hb).1 q, rfl, rfl⟩ fun b hb => .inl hb
          simp only [List.mem_cons, List.not_mem_nil, or_false] at hb
          rcases hb with rfl | rfl
          · exact Ne.symm hLe
          · exact Ne.symm hLi
        | false =>
          rw [if_neg Bool.false_ne_true]
          refine sx_execs_cons (sx_If (wpAny_isTrue_Compare1 (nm_loc hn₃ rfl (wpAny_Constant_str (eq_str (wpAny_truthy_bool ?_))))))
          have hcq : ((⟨#[c]⟩ : Str) == Str.ofString "\\") = decide (c = 92) := by
            rw [show Str.ofString "\\" = ⟨#[92]⟩ from by decide +kernel]
            by_cases h : c = 92
            · subst h; decide
            · rw [decide_eq_false h]
              rw [beq_eq_false_iff_ne]
              intro q
              injection q with q
              exact h (by simpa using q)
          rw [hcq]
          by_cases h92 : c = 92
          · rw [if_pos (decide_eq_true h92)]
            refine sx_execs_cons (sx_wrap (wpAny_Assign_Name (wpAny_Constant_bool (st_loc hn₃ fun h5 hn5 hs5 => ?_))))
            refine sx_execs_nil (sx_execs_nil (s_again prog w A _ _ _ _ _ rfl ?_))
            rw [show escGo i false (c :: r) = escGo (i + 1) true r by show (if c = 92 then _ else _) = _; rw [if_pos h92]]
            refine ih (i + 1) true A _ _ s₀ fp₀ hh hd hcr hlt (by have q := hend; rw [show escEnd false (c :: r) = escEnd (decide (c = 92)) r from rfl, decide_eq_true h92] at q; exact q) hn5 (if_pos rfl) ((enumW (prog := prog) (w := w) (x := x) (t := t) hh hei).frame (i + 1) h₃ h5 hst₃ fun b hb o q => hs5.extBut b o ?_ q)
              ⟨fun b o hb q => hs5.extBut b o (out b o hb q).1 (htn₃.keep b o hb q), htn.gens, htn.os⟩ hfp
            simp only [List.mem_cons, List.not_mem_nil, or_false] at hb
            rcases hb with rfl | rfl
            · exact Ne.symm hLe
            · exact Ne.symm hLi
          · rw [if_neg (by rw [decide_eq_false h92]; exact Bool.false_ne_true)]
            rw [show escGo i false (c :: r) = (i, ⟨#[c]⟩) :: escGo (i + 1) false r by show (if c = 92 then _ else _) = _; rw [if_neg h92]]
            refine sx_execs_cons (sx_Yield rfl rfl rfl ?_)
            refine Tuple_ (spliced_more (nm_loc hn₃ rfl (spliced_more (nm_loc hn₃ rfl (spliced_none (wpAny_newTuple fun k l p hk => ?_))))))
            refine ⟨_, tp, u, [L, e, it], rfl, ⟨_, Heap.get?_push_size _ rfl, rfl, _, rfl⟩, apart, hfp, htn₃.to fun b o hb q => Heap.get?_push_of_some _ q, ?_⟩
            refine Yl_of rfl fun A' s' hh' hd' hag' B' => ?_
            show SegX _ A' _ (k (.send .none)) _ s' _
            rw [hk]
            have hn' := (hn₃.push { cls := .type "tuple", data := .seq [Value.int i tp, Value.str ⟨#[c]⟩ u].toArray }).at' fun o q => hag' L (by simp) o q
            have hst' := (enumW (prog := prog) (w := w) (x := x) (t := t) hh hei).frame (i + 1) h₃ s'.heap hst₃ fun b hb o q => hag' b (List.mem_cons_of_mem _ hb) o (Heap.get?_push_of_some _ q)
            refine sx_execs_nil (sx_execs_nil (s_again prog w A' _ _ _ _ _ rfl ?_))
            exact ih (i + 1) false A' _ _ s' [L, e, it] hh' hd' hcr hlt (by have q := hend; rw [show escEnd false (c :: r) = escEnd (decide (c = 92)) r from rfl, decide_eq_false h92] at q; exact q) hn' hb₃ hst' (Turned.refl _ _) fun b hb => .inl hb
    case h1 => exact hn2.keeps hk3
    case h2 => exact if_pos rfl
    case h3 => exact ⟨⟨_, he3⟩, hi3⟩
    case h4 => exact ⟨fun b o hb e => hk3 _ _ (k2 b o (by simpa using hb) e), rfl, rfl⟩
    case h5 =>
      intro b hb
      simp only [List.mem_cons, List.not_mem_nil, or_false] at hb
      rcases hb with rfl | rfl | rfl
      · exact .inl (.head _)
      · exact .inr (none₀ _ (by omega))
      · exact .inr (none₀ _ (by omega))
  · show H.objs.size ∉ _
    rw [hsz]; simp
  · show s.heap.get? H.objs.size = none
    exact none_of _ (by omega)
  · intro b hb
    obtain ⟨o, _, _, e, _⟩ := hns
    rw [List.mem_singleton.mp hb]
    exact ⟨o, Heap.get?_push_of_some _ e⟩
end
end Mine
end

-- M4
section
open PySem PySem.W PySem.W.X PyProof.Rows
namespace Mine
open Sem (wp)

/-- all that stood stands -/
def Kp (h h' : Heap) : Prop := ∀ b o, h.get? b = some o → h'.get? b = some o
theorem Kp.refl (h : Heap) : Kp h h := fun _ _ e => e
theorem Kp.trans {h h' h'' : Heap} (x : Kp h h') (y : Kp h' h'') : Kp h h'' := fun b o e => y b o (x b o e)

/-- what a call leaves behind -/
structure Aft (s s' : Shared) : Prop where
  heap : Kp s.heap s'.heap
  gens : ∃ l : List GenState, s'.gens = s.gens ++ l.toArray ∧ ∀ x ∈ l, x.bare = true
  os : s'.os = s.os
theorem Aft.refl (s : Shared) : Aft s s := ⟨Kp.refl _, ⟨[], by simp, by simp⟩, rfl⟩
theorem Aft.trans {s s' s'' : Shared} (x : Aft s s') (y : Aft s' s'') : Aft s s'' := by
  obtain ⟨l, e, hl⟩ := x.gens
  obtain ⟨l', e', hl'⟩ := y.gens
  refine ⟨x.heap.trans y.heap, ⟨l ++ l', ?_, ?_⟩, y.os.trans x.os⟩
  · rw [e', e]; apply Array.ext'; simp
  · intro z hz
    rcases List.mem_append.mp hz with h | h
    · exact hl z h
    · exact hl' z h
theorem Aft.to {s s' : Shared} {h : Heap} {tk : Nat} (x : Aft s s') (k : Kp s'.heap h) : Aft s { s' with heap := h, toks := tk } := ⟨x.heap.trans k, x.gens, x.os⟩

section
variable {prog : Program} {w : World} {A : Around} {E : Value → Shared → Prop} {s : Shared}

theorem call_fn {a : Addr} {oc : Value} {od : Option Addr} {osl : Array (Option Value)} {fd : FuncData} {body : List Stmt} {args : List Value} {binds : List (Str × Value)} {Q : Value → Shared → Prop}
    (hA : Room A) (B : Base w s.heap) (ho : (Mine.hd.heap_39 w.params).lookup a = some ⟨oc, od, .func fd, osl⟩) (hbody : fd.body = .stmts body) (hcd : codeIn (Mine.hd.heap_39 w.params) fd.code fd.qualname = true)
    (hbind : bindArgs fd ⟨args, []⟩ = pure binds) (hcell : ∀ x ∈ fd.scope.names, x.2 ≠ .cell) (hloc : ∀ x ∈ binds, fd.scope.names.lookup x.1 = some .local)
    (h : ∀ h₀, h₀.Ns s.heap.objs.size (fun x => binds.reverse.lookup x) → Kp s.heap h₀ → Base w h₀ →
      wpAny (model prog w) (A.deeper (callEnv fd s.heap.objs.size a)) (execs body (callEnv fd s.heap.objs.size a)) (fun f s' => Q (match f with | .ret v => v | _ => .none) s') (fun _ _ => False)
        { s with heap := h₀, toks := s.toks + binds.length })
    (hco : fd.scope.isCoroutine = false := by rfl) (hgen : fd.scope.isGenerator = false := by rfl) (hk : fd.scope.kind = .function := by rfl) :
    wpAny (model prog w) A (call (.ref a) args) Q E s :=
  wpAny_call (codeAny_call_def (Nat.lt_of_lt_of_le hA.depth (by decide)) (B.k a _ ho) rfl B.lim (codeRec_of B.k hcd) hbody (.of_eq hbind) hcell hloc
    (fun h₀ hn hk => wpAny_mono (h h₀ hn hk (B.keeps hk)) (fun _ _ x => x) fun _ _ x => x.elim) hco hgen hk)

theorem Room.deeper {A : Around} (h : Room A) {env : Env} (hd : A.depth < 800) (hu : A.units < 4000) : Room (A.deeper env) := ⟨h.hh, by show A.depth + 1 < 900; omega, by show A.units + 3 < 5000; omega⟩

/-- the loop of _check_parenthesis -/
def chkGo : Int → List (Nat × Str) → Bool
  | n, [] => decide (n = 0)
  | n, y :: r => if y.2 = ⟨#[40]⟩ then chkGo (n + 1) r else if y.2 = ⟨#[41]⟩ then (if n - 1 < 0 then false else chkGo (n - 1) r) else chkGo n r

theorem gens_set {gens : Array GenState} {gs gs' : GenState} : (gens.push gs).setIfInBounds gens.size gs' = gens.push gs' := by
  apply Array.ext'
  simp

theorem beq_lit {a b : Str} {l : String} (h : Str.ofString l = b) : (a == Str.ofString l) = decide (a = b) := by
  rw [h]
  by_cases q : a = b
  · subst q; simp
  · rw [decide_eq_false q]; exact beq_eq_false_iff_ne.mpr q

theorem go_gen {a T : Addr} {g k : Nat} {elts : List Expr} {pos : Pos} {Q : Unit → Shared → Prop} (hg : s.heap.IsGen a g) (h : Q () s) :
    wpAny (model prog w) A (letOwnedTupleGo (.Tuple elts k pos) (.ref a) (.ref T)) Q E s := by
  obtain ⟨⟨c, d, dt, sl⟩, nm, qn, ho, hc, hd, hs⟩ := hg
  dsimp only at hc hd hs
  subst hc hd hs
  unfold letOwnedTupleGo
  refine wpAny_bind (wpAny_load ho ?_)
  exact wpAny_pure h

/-- a generator under way in a def's loop; sg: the state ahead of its call -/
structure Under (prog : Program) (w : World) (sg : Shared) (a : Addr) (ys : List (Nat × Str)) (s : Shared) : Prop where
  at_ : ∃ fp, GenAt prog w fp a sg.gens.size ys s ∧ a ∉ fp ∧ ∀ b ∈ fp, sg.heap.get? b = none
  gens : ∃ gs, s.gens = sg.gens.push gs ∧ gs.bare = true
  os : s.os = sg.os
  new : sg.heap.get? a = none
  dom : ∀ b o, sg.heap.get? b = some o → ∃ o', s.heap.get? b = some o'

theorem Under.to {sg : Shared} {a : Addr} {ys : List (Nat × Str)} {own : List Addr} {h : Heap} {tk : Nat} (U : Under prog w sg a ys s) (hown : ∀ b ∈ own, ∃ o, sg.heap.get? b = some o)
    (hk : ∀ b o, b ∉ own → s.heap.get? b = some o → h.get? b = some o) (hl : ∀ b ∈ own, ∃ o, h.get? b = some o) : Under prog w sg a ys { s with heap := h, toks := tk } := by
  obtain ⟨⟨fp, G, haf, hfp⟩, hg, hos, hnew, hdom⟩ := U
  have hao : a ∉ own := fun hm => by obtain ⟨o, e⟩ := hown a hm; rw [hnew] at e; cases e
  refine ⟨⟨fp, G.to (fun o e => hk a o hao e) (fun b hb o e => hk b o (fun hm => ?_) e), haf, hfp⟩, hg, hos, hnew, fun b o e => ?_⟩
  · obtain ⟨o', e'⟩ := hown b hm
    rw [hfp b hb] at e'; cases e'
  · by_cases hm : b ∈ own
    · exact hl b hm
    · obtain ⟨o', e'⟩ := hdom b o e
      exact ⟨o', hk b o' hm e'⟩

theorem under_next {sg : Shared} {a : Addr} {y : Nat × Str} {ys : List (Nat × Str)} {Q : Option Value → Shared → Prop} (hA : Room A) (B : Base w s.heap) (U : Under prog w sg a (y :: ys) s)
    (hQ : ∀ T t u s', s'.heap.IsTuple T #[.int y.1 t, .str y.2 u] → (∀ b o o', sg.heap.get? b = some o → s.heap.get? b = some o' → s'.heap.get? b = some o') → Under prog w sg a ys s' → Q (some (.ref T)) s') :
    wpAny (model prog w) A (pyNext (.ref a)) Q E s := by
  obtain ⟨⟨fp, G, haf, hfp⟩, ⟨gs₀, hgs₀, hb₀⟩, hos, hnew, hdom⟩ := U
  have hin : ∀ b o, sg.heap.get? b = some o → b ∉ fp := fun b o e hm => by rw [hfp b hm] at e; cases e
  refine next_item hA B G haf fun T t u s' gs fp' hb hT hTf hff hk hg ho G' => ?_
  refine hQ T t u s' hT (fun b o o' e e' => hk b o' (hin b o e) e') ⟨⟨fp', G', fun hm => ?_, fun b hm => ?_⟩, ⟨gs, ?_, hb⟩, ho.trans hos, hnew, fun b o e => ?_⟩
  · rcases hff a hm with h | h
    · exact haf h
    · obtain ⟨o, _, _, e, _⟩ := G.obj
      rw [h] at e; cases e
  · rcases hff b hm with h | h
    · exact hfp b h
    · cases e : sg.heap.get? b with
      | none => rfl
      | some o => obtain ⟨o', e'⟩ := hdom b o e; rw [h] at e'; cases e'
  · rw [hg, hgs₀, gens_set]
  · obtain ⟨o', e'⟩ := hdom b o e
    exact ⟨o', hk b o' (hin b o e) e'⟩

theorem under_done {sg : Shared} {a : Addr} {Q : Option Value → Shared → Prop} (hA : Room A) (B : Base w s.heap) (U : Under prog w sg a [] s)
    (hQ : ∀ s', (∀ b o o', sg.heap.get? b = some o → s.heap.get? b = some o' → s'.heap.get? b = some o') → (∃ gs, s'.gens = sg.gens.push gs ∧ gs.bare = true) → s'.os = sg.os → Q none s') :
    wpAny (model prog w) A (pyNext (.ref a)) Q E s := by
  obtain ⟨⟨fp, G, haf, hfp⟩, ⟨gs₀, hgs₀, hb₀⟩, hos, hnew, hdom⟩ := U
  have hin : ∀ b o, sg.heap.get? b = some o → b ∉ fp := fun b o e hm => by rw [hfp b hm] at e; cases e
  refine next_done hA B G fun s' gs hb hk hg ho => hQ s' (fun b o o' e e' => hk b o' (hin b o e) e') ⟨gs, ?_, hb⟩ (ho.trans hos)
  rw [hg, hgs₀, gens_set]

theorem check_tail {x y : Str} {t : Tok} {Q : Value → Shared → Prop} (hA : Room A) (hd : A.depth < 800) (hu : A.units < 4000) (B : Base w s.heap)
    (hstrip : ∀ (A : Around) (s : Shared) (Q : Value → Shared → Prop) (E : Value → Shared → Prop) (t : Tok), Room A → A.depth < 801 → A.units < 4003 → Base w s.heap → (∀ t' s', Aft s s' → Q (.str y t') s') → wpAny (model prog w) A (call (.ref 28) [.str x t]) Q E s)
    (hx : y.cps.all (· < 128) = true) (hend : escEnd false y.cps.toList = false)
    (hQ : ∀ s', Aft s s' → Q (.bool (chkGo 0 (escGo 0 false y.cps.toList))) s') :
    wpAny (model prog w) A (call (.ref 35) [.str x t]) Q E s := by
  refine call_fn hA B rfl rfl rfl rfl (by decide) (locs rfl) fun h₀ hn hk B₀ => ?_
  refine wpAny_execs_cons (wpAny_Assign_Name ?_)
  refine Call_ (nm_glob B₀ rfl (callWith_def rfl (spliced_more (nm_loc hn rfl (spliced_none ⟨B₀.k 28 _ rfl, ?_⟩)))))
  refine hstrip _ _ _ _ t (hA.deeper hd hu) (by show A.depth + 1 < 801; omega) (by show A.units + 3 < 4003; omega) B₀ fun t' s₁ a₁ => ?_
  refine st_loc (hn.keeps a₁.heap) fun h₂ hn₂ hs₂ => ?_
  refine wpAny_execs_cons (wpAny_Assign_Name (wpAny_Constant_int (st_loc hn₂ fun h₃ hn₃ hs₃ => ?_)))
  have low : ∀ b o, s.heap.get? b = some o → b ≠ s.heap.objs.size := fun b o e => Nat.ne_of_lt (Heap.lt_size e)
  have k₃ : Kp s.heap h₃ := fun b o e => hs₃.extBut b o (low b o e) (hs₂.extBut b o (low b o e) (a₁.heap b o (hk b o e)))
  refine wpAny_execs_cons (wpAny_For ?_)
  refine Call_ (nm_glob (B.keeps k₃) rfl (callWith_def rfl (spliced_more (nm_loc hn₃ rfl (spliced_none ⟨(B.keeps k₃).k 21 _ rfl, ?_⟩)))))
  refine iter_call (hA.deeper hd hu) (B.keeps k₃) hx hend fun a fp s₄ gs G hb hg hos k₄ hfp haf haN hal => ?_
  refine wpAny_pyIter_gen G.obj ?_
  have U₄ : Under prog w { s₁ with heap := h₃ } a (escGo 0 false y.cps.toList) s₄ := ⟨⟨fp, G, haf, hfp⟩, ⟨gs, hg, hb⟩, hos, haN, fun b o e => ⟨o, k₄ b o e⟩⟩
  obtain ⟨oL, hoL⟩ : ∃ o, h₃.get? s.heap.objs.size = some o := let ⟨o, _, _, e, _⟩ := hn₃; ⟨o, e⟩
  refine codeAny_forLoop_any (fun k s' => ∃ ys n tk m, k = ys.length + 1 ∧ Under prog w { s₁ with heap := h₃ } a ys s' ∧ s'.heap.Ns s.heap.objs.size m ∧ m "opens" = some (.int n tk) ∧
    chkGo n ys = chkGo 0 (escGo 0 false y.cps.toList) ∧ Kp s.heap s'.heap) ?_ _ ⟨_, 0, _, _, rfl, U₄, hn₃.keeps k₄, if_pos rfl, rfl, fun b o e => k₄ b o (k₃ b o e)⟩
  rintro k s' ⟨ys, n, tk, m, rfl, U, hnL, hm, hch, hkp⟩
  have fin : ∀ s'', Kp s.heap s''.heap → (∃ gs, s''.gens = s₁.gens.push gs ∧ gs.bare = true) → s''.os = s₁.os → Aft s s'' := by
    rintro s'' hk ⟨gs, hg, hb⟩ ho
    obtain ⟨l, e, hl⟩ := a₁.gens
    refine ⟨hk, ⟨l ++ [gs], ?_, ?_⟩, ho.trans a₁.os⟩
    · rw [hg, e]; apply Array.ext'; simp
    · intro z hz
      rcases List.mem_append.mp hz with h | h
      · exact hl z h
      · rw [List.mem_singleton.mp h]; exact hb
  cases ys with
  | nil =>
    refine under_done (hA.deeper hd hu) (B.keeps hkp) U fun s₅ hk₅ hg₅ ho₅ => wpAny_execs_nil ?_
    refine wpAny_execs_cons (wpAny_Return_some (wpAny_Compare1 (nm_loc (hnL.at' fun o e => hk₅ _ _ o hoL e) hm (wpAny_Constant_int (eq_int ?_)))))
    have hv : (n == 0) = chkGo 0 (escGo 0 false y.cps.toList) := by
      rw [← hch]
      show _ = decide (n = 0)
      by_cases h : n = 0 <;> simp [h]
    show Q (.bool (n == 0)) _
    rw [hv]
    exact hQ _ (fin _ (fun b o e => hk₅ b o o (k₃ b o e) (hkp b o e)) hg₅ ho₅)
  | cons z ys =>
    refine under_next (hA.deeper hd hu) (B.keeps hkp) U fun T tz uz s₅ hT hk₅ U₅ => ?_
    obtain ⟨fp₅, G₅, _⟩ := U₅.at_
    refine go_gen G₅.obj ?_
    refine assign_pair hA.hh hT (hnL.at' fun o e => hk₅ _ _ o hoL e) fun h₆ tk₆ hn₆ hk₆ => ?_
    have kp₆ : Kp s.heap h₆ := fun b o e => hk₆ b o (low b o e) (hk₅ b o o (k₃ b o e) (hkp b o e))
    have U₆ : ∀ tk', Under prog w { s₁ with heap := h₃ } a ys { s₅ with heap := h₆, toks := tk' } := fun tk' => U₅.to (own := [s.heap.objs.size]) (by simpa using ⟨oL, hoL⟩) (fun b o hb e => hk₆ b o (fun q => hb (List.mem_singleton.mpr q)) e)
      (by simpa using (let ⟨o, _, _, e, _⟩ := hn₆; ⟨o, e⟩ : ∃ o, h₆.get? s.heap.objs.size = some o))
    have hm₆ : (if Str.ofString "opens" = Str.ofString "ch" then some (Value.str z.2 uz) else if Str.ofString "opens" = Str.ofString "pos" then some (Value.int z.1 tz) else m "opens") = some (.int n tk) := by
      rw [if_neg (by decide), if_neg (by decide)]; exact hm
    have step : ∀ (s₇ : Shared) (h₇ : Heap) (n' : Int) (tk₇ : Tok) (mm : Str → Option Value), (∃ t', s₇ = { s₅ with heap := h₇, toks := t' }) → h₇.Ns s.heap.objs.size mm → mm "opens" = some (.int n' tk₇) → Heap.SameBut s.heap.objs.size h₆ h₇ → chkGo n' ys = chkGo n (z :: ys) →
        ∃ m, m < (z :: ys).length + 1 ∧ ∃ ys n tk m', m = ys.length + 1 ∧ Under prog w { s₁ with heap := h₃ } a ys s₇ ∧ s₇.heap.Ns s.heap.objs.size m' ∧ m' "opens" = some (.int n tk) ∧ chkGo n ys = chkGo 0 (escGo 0 false y.cps.toList) ∧ Kp s.heap s₇.heap := by
      rintro s₇ h₇ n' tk₇ mm ⟨t', rfl⟩ hn₇ hm₇ hs₇ hc
      refine ⟨ys.length + 1, by simp, ys, n', tk₇, mm, rfl, ?_, hn₇, hm₇, hc.trans hch, fun b o e => hs₇.extBut b o (low b o e) (kp₆ b o e)⟩
      exact (U₆ t').to (own := [s.heap.objs.size]) (by simpa using ⟨oL, hoL⟩) (fun b o hb e => hs₇.extBut b o (fun q => hb (List.mem_singleton.mpr q)) e)
        (by simpa using (let ⟨o, _, _, e, _⟩ := hn₇; ⟨o, e⟩ : ∃ o, h₇.get? s.heap.objs.size = some o))
    refine wpAny_execs_cons (wpAny_If (wpAny_isTrue_Compare1 (nm_loc hn₆ rfl (wpAny_Constant_str (eq_str (wpAny_truthy_bool ?_))))))
    rw [beq_lit (b := ⟨#[40]⟩) (by decide +kernel)]
    by_cases h40 : z.2 = ⟨#[40]⟩
    · rw [if_pos (decide_eq_true h40)]
      refine wpAny_execs_cons (wpAny_AugAssign_Name (wpAny_loadName_local rfl rfl hn₆ hm₆ (wpAny_Constant_int (iadd_int (st_loc hn₆ fun h₇ hn₇ hs₇ => wpAny_execs_nil (wpAny_execs_nil ?_))))))
      exact step _ h₇ (n + 1) _ _ ⟨_, rfl⟩ hn₇ (if_pos rfl) hs₇ (by show _ = if _ then _ else _; rw [if_pos h40])
    · rw [if_neg (by rw [decide_eq_false h40]; exact Bool.false_ne_true)]
      refine wpAny_execs_cons (wpAny_If (wpAny_isTrue_Compare1 (nm_loc hn₆ rfl (wpAny_Constant_str (eq_str (wpAny_truthy_bool ?_))))))
      rw [beq_lit (b := ⟨#[41]⟩) (by decide +kernel)]
      by_cases h41 : z.2 = ⟨#[41]⟩
      · rw [if_pos (decide_eq_true h41)]
        refine wpAny_execs_cons (wpAny_AugAssign_Name (wpAny_loadName_local rfl rfl hn₆ hm₆ (wpAny_Constant_int (isub_int (st_loc hn₆ fun h₇ hn₇ hs₇ => ?_)))))
        refine wpAny_execs_cons (wpAny_If (wpAny_isTrue_Compare1 (nm_loc hn₇ (if_pos rfl) (wpAny_Constant_int (lt_int (wpAny_truthy_bool ?_))))))
        by_cases hlt : n - 1 < 0
        · rw [if_pos (decide_eq_true hlt)]
          refine wpAny_execs_cons (wpAny_Return_some (wpAny_Constant_bool ?_))
          show Q (.bool false) _
          have hv : false = chkGo 0 (escGo 0 false y.cps.toList) := by
            rw [← hch]
            show false = if _ then _ else _
            rw [if_neg h40, if_pos h41, if_pos hlt]
          rw [hv]
          exact hQ _ (fin _ (fun b o e => hs₇.extBut b o (low b o e) (kp₆ b o e)) U₅.gens U₅.os)
        · rw [if_neg (by rw [decide_eq_false hlt]; exact Bool.false_ne_true)]
          refine wpAny_execs_nil (wpAny_execs_nil (wpAny_execs_nil (wpAny_execs_nil ?_)))
          exact step _ h₇ (n - 1) _ _ ⟨_, rfl⟩ hn₇ (if_pos rfl) hs₇ (by show _ = if _ then _ else _; rw [if_neg h40, if_pos h41, if_neg hlt])
      · rw [if_neg (by rw [decide_eq_false h41]; exact Bool.false_ne_true)]
        refine wpAny_execs_nil (wpAny_execs_nil (wpAny_execs_nil ?_))
        exact step _ h₆ n _ _ ⟨_, rfl⟩ hn₆ hm₆ ⟨rfl, fun _ _ => rfl⟩ (by show _ = if _ then _ else _; rw [if_neg h40, if_neg h41])
end
end Mine
end

-- M5
section
open PySem PySem.W PySem.W.X PyProof.Rows
namespace Mine
open Sem (wp)

/-- the loop of _strip_quoted_realnames, and what stands behind it -/
def stripGo (x : Str) : Int → Option Int → List Str → List (Nat × Str) → List Str
  | st, _, res, [] => if st < x.length then res ++ [Txt.slice x (some st) none] else res
  | st, op, res, y :: r => if y.2 = ⟨#[34]⟩ then (match op with
      | none => stripGo x st (some y.1) res r
      | some o => stripGo x (y.1 + 1) none (if st = o then res else res ++ [Txt.slice x (some st) (some o)]) r) else stripGo x st op res r
def stripF (x : Str) : Str := if (Builtin.Str.occurrences x (Str.ofString "\"") 0 x.length 1).isEmpty = true then x else Txt.join (Str.ofString "") (stripGo x 0 none [] (escGo 0 false x.cps.toList))

theorem escGo_length : ∀ (cs : List Nat) (p : Nat) (b : Bool), (escGo p b cs).length ≤ cs.length
  | [], _, _ => Nat.le_refl _
  | c :: r, p, true => by
    have := escGo_length r (p + 1) false
    simp only [escGo, List.length_cons]; omega
  | c :: r, p, false => by
    have h1 := escGo_length r (p + 1) false
    have h2 := escGo_length r (p + 1) true
    simp only [escGo]
    split
    · simp only [List.length_cons]; omega
    · simp only [List.length_cons]; omega

section
variable {prog : Program} {w : World} {A : Around} {E : Value → Shared → Prop} {s : Shared} {env : Env}

theorem slice_ss {value slice : Expr} {x : Str} {t : Tok} {i j : Int} {ui uj : Tok} {Q : Value → Shared → Prop} (h : ∀ h' t' k, Kp s.heap h' → Q (.str (Txt.slice x (some i) (some j)) t') { s with heap := h', toks := k }) (hsz : x.length ≤ sizeLine)
    (hs : subscripted slice false (.str x t) (.ref s.heap.objs.size) = operate [.ref s.heap.objs.size, .str x t] (getItem (.str x t) (.ref s.heap.objs.size)) := by with_unfolding_all rfl)
    (ht : ∀ r, letTemporaryGo value (.str x t) r = pure () := by intro _; with_unfolding_all rfl) :
    wpAny (model prog w) A (subscriptTail value slice (.str x t) (.ref s.heap.objs.size)) Q E { s with heap := s.heap.push { cls := .type "slice", data := .fields #[.int i ui, .int j uj, .none] } } :=
  tail_of_ItemOn (SBH.sliceItem_ss (P := fun h => Kp s.heap h) (fun _ _ k b o e => Heap.get?_push_of_some _ (k b o e)) (Kp.refl _) h hsz) hs ht
theorem slice_sn {value slice : Expr} {x : Str} {t : Tok} {i : Int} {ui : Tok} {Q : Value → Shared → Prop} (h : ∀ h' t' k, Kp s.heap h' → Q (.str (Txt.slice x (some i) none) t') { s with heap := h', toks := k }) (hsz : x.length ≤ sizeLine)
    (hs : subscripted slice false (.str x t) (.ref s.heap.objs.size) = operate [.ref s.heap.objs.size, .str x t] (getItem (.str x t) (.ref s.heap.objs.size)) := by with_unfolding_all rfl)
    (ht : ∀ r, letTemporaryGo value (.str x t) r = pure () := by intro _; with_unfolding_all rfl) :
    wpAny (model prog w) A (subscriptTail value slice (.str x t) (.ref s.heap.objs.size)) Q E { s with heap := s.heap.push { cls := .type "slice", data := .fields #[.int i ui, .none, .none] } } :=
  tail_of_ItemOn (SBH.sliceItem_sn (P := fun h => Kp s.heap h) (fun _ _ k b o e => Heap.get?_push_of_some _ (k b o e)) (Kp.refl _) h hsz) hs ht

theorem gm_append {l : Addr} {items : Array Value} {pl : Sem Bool} {Q : Value × List Value → Shared → Prop} (hl : s.heap.PlainList l items) (h : Q (.builtin "list.append", [.ref l]) s) :
    wpAny (model prog w) A (getMethod (.ref l) "append" pl) Q E s := by
  obtain ⟨n, e⟩ := hl
  exact Calls.getMethod_list_append e rfl rfl h

theorem sum_le_of : ∀ (rs : List Str), (∀ y ∈ rs, y.length ≤ 200) → (rs.map (·.length)).sum ≤ 200 * rs.length
  | [], _ => Nat.le_refl _
  | y :: r, h => by
    have h1 := h y (.head _)
    have h2 := sum_le_of r fun z hz => h z (.tail _ hz)
    simp only [List.map_cons, List.sum_cons, List.length_cons]
    omega

theorem upd_two {x y₁ y₂ : Str} {v₁ v₂ u mx : Option Value} (h : mx = u) (n₁ : x ≠ y₁) (n₂ : x ≠ y₂) : (if x = y₁ then v₁ else if x = y₂ then v₂ else mx) = u := by rw [if_neg n₁, if_neg n₂]; exact h
theorem upd_mid {x y₁ : Str} {v₁ v₂ mx : Option Value} (n₁ : x ≠ y₁) : (if x = y₁ then v₁ else if x = x then v₂ else mx) = v₂ := by rw [if_neg n₁, if_pos rfl]

theorem strsAre_size {items : Array Value} {ys : List Str} (h : StrsAre items.toList ys) : items.size = ys.length := by
  rw [← Array.length_toList]
  generalize items.toList = l at h
  induction h with
  | nil => rfl
  | cons a b _ ih => simp [ih]

theorem strsAre_push {items : Array Value} {ys : List Str} {y : Str} {t : Tok} (h : StrsAre items.toList ys) : StrsAre (items.push (.str y t)).toList (ys ++ [y]) := by
  rw [Array.toList_push]
  generalize items.toList = l at h
  induction h with
  | nil => exact .cons _ _ .nil
  | cons a b _ ih => exact .cons _ _ ih

theorem strip_spec {x : Str} {t : Tok} {Q : Value → Shared → Prop} (hA : Room A) (hd : A.depth < 801) (hu : A.units < 4003) (B : Base w s.heap)
    (hx : x.cps.all (· < 128) = true) (hend : escEnd false x.cps.toList = false) (hlen : x.length ≤ 200)
    (hQ : ∀ t' s', Aft s s' → Q (.str (stripF x) t') s') :
    wpAny (model prog w) A (call (.ref 28) [.str x t]) Q E s := by
  refine call_fn hA B rfl rfl rfl rfl (by decide) (locs rfl) fun h₀ hn hk B₀ => ?_
  have hA₁ : ∀ env, Room (A.deeper env) := fun env => ⟨hA.hh, by show A.depth + 1 < 900; omega, by show A.units + 3 < 5000; omega⟩
  refine wpAny_execs_cons (wpAny_If (wpAny_isTrue_Compare1 (wpAny_Constant_str (nm_loc hn rfl (notIn_str (wpAny_truthy_bool ?_))))))
  rw [Bool.not_not]
  cases hocc : (Builtin.Str.occurrences x (Str.ofString "\"") 0 x.length 1).isEmpty with
  | true =>
    rw [if_pos rfl]
    refine wpAny_execs_cons (wpAny_Return_some (nm_loc hn rfl ?_))
    show Q (.str x t) _
    have hv : stripF x = x := by unfold stripF; rw [if_pos hocc]
    have := hQ t _ ((Aft.refl s).to (tk := s.toks + 1 + 1) hk)
    rw [hv] at this
    exact this
  | false =>
    rw [if_neg Bool.false_ne_true]
    refine wpAny_execs_nil ?_
    refine wpAny_execs_cons (wpAny_Assign_Name (wpAny_Constant_int (st_loc hn fun h₁ hn₁ hs₁ => ?_)))
    refine wpAny_execs_cons (wpAny_Assign_Name (wpAny_Constant_none (st_loc hn₁ fun h₂ hn₂ hs₂ => ?_)))
    refine wpAny_execs_cons (wpAny_Assign_Name (List_ (spliced_none (wpAny_newList (st_loc (hn₂.push _) fun h₃ hn₃ hs₃ => ?_)))))
    refine wpAny_execs_cons (wpAny_For ?_)
    have low : ∀ b o, s.heap.get? b = some o → b ≠ s.heap.objs.size := fun b o e => Nat.ne_of_lt (Heap.lt_size e)
    have k₂ : Kp s.heap h₂ := fun b o e => hs₂.extBut b o (low b o e) (hs₁.extBut b o (low b o e) (hk b o e))
    have k₃ : Kp s.heap h₃ := fun b o e => hs₃.extBut b o (low b o e) (Heap.get?_push_of_some _ (k₂ b o e))
    have hLr : s.heap.objs.size ≠ h₂.objs.size := Nat.ne_of_lt hn₂.lt
    have hr₃ : h₃.PlainList h₂.objs.size #[] := ⟨0, hs₃.extBut _ _ (Ne.symm hLr) (Heap.get?_push_size _ rfl)⟩
    obtain ⟨m₃, hM₃, e1, ⟨tk₃, e2⟩, e3, e4⟩ : ∃ m, h₃.Ns s.heap.objs.size m ∧ m "addr" = some (.str x t) ∧ (∃ tk, m "start" = some (.int 0 tk)) ∧ m "open_pos" = some .none ∧ m "result" = some (.ref h₂.objs.size) := ⟨_, hn₃, rfl, ⟨_, rfl⟩, rfl, rfl⟩
    clear hn₃
    obtain ⟨r, hrr⟩ : ∃ r, h₂.objs.size = r := ⟨_, rfl⟩
    rw [hrr] at e4
    rw [hrr] at hLr hr₃
    have lowr : ∀ b o, s.heap.get? b = some o → b ≠ r := fun b o e => by
      have h1 := Heap.lt_size (k₂ b o e)
      exact Nat.ne_of_lt (hrr ▸ h1)
    refine Call_ (nm_glob (B.keeps k₃) rfl (callWith_def rfl (spliced_more (nm_loc hM₃ e1 (spliced_none ⟨(B.keeps k₃).k 21 _ rfl, ?_⟩)))))
    refine iter_call (hA₁ _) (B.keeps k₃) hx hend fun a fp s₄ gs G hb hg hos k₄ hfp haf haN hal => ?_
    refine wpAny_pyIter_gen G.obj ?_
    have U₄ : Under prog w { s with heap := h₃ } a (escGo 0 false x.cps.toList) s₄ := ⟨⟨fp, G, haf, hfp⟩, ⟨gs, hg, hb⟩, hos, haN, fun b o e => ⟨o, k₄ b o e⟩⟩
    obtain ⟨oL, hoL⟩ : ∃ o, h₃.get? s.heap.objs.size = some o := let ⟨o, _, _, e, _⟩ := hM₃; ⟨o, e⟩
    obtain ⟨or, hor⟩ : ∃ o, h₃.get? r = some o := let ⟨n, e⟩ := hr₃; ⟨_, e⟩
    have hown : ∀ b ∈ [s.heap.objs.size, r], ∃ o, h₃.get? b = some o := by
      intro b hb
      simp only [List.mem_cons, List.not_mem_nil, or_false] at hb
      rcases hb with rfl | rfl
      · exact ⟨_, hoL⟩
      · exact ⟨_, hor⟩
    have out2 : ∀ b, b ∉ [s.heap.objs.size, r] → b ≠ s.heap.objs.size ∧ b ≠ r := fun b hb => by
      simp only [List.mem_cons, List.not_mem_nil, or_false, not_or] at hb; exact hb
    have hall : (escGo 0 false x.cps.toList).length ≤ 200 := Nat.le_trans (escGo_length _ _ _) (by simpa [Str.length] using hlen)
    refine codeAny_forLoop_any (fun k s' => ∃ ys st tk op ov m items res, k = ys.length + 1 ∧ Under prog w { s with heap := h₃ } a ys s' ∧ s'.heap.Ns s.heap.objs.size m ∧ m "addr" = some (.str x t) ∧ m "start" = some (.int st tk) ∧
      m "open_pos" = some ov ∧ (match op with | none => ov = .none | some o => ∃ u, ov = .int o u) ∧ m "result" = some (.ref r) ∧ s'.heap.PlainList r items ∧ StrsAre items.toList res ∧
      stripGo x st op res ys = stripGo x 0 none [] (escGo 0 false x.cps.toList) ∧ Kp s.heap s'.heap ∧ res.length + ys.length ≤ 200 ∧ ∀ y ∈ res, y.length ≤ 200) ?_ _
      ⟨_, 0, tk₃, none, .none, m₃, #[], [], rfl, U₄, hM₃.keeps k₄, e1, e2, e3, rfl, e4, hr₃.at fun o e => k₄ _ o e, .nil, rfl, fun b o e => k₄ b o (k₃ b o e), by simpa using hall, by simp⟩
    rintro k s' ⟨ys, st, tk, op, ov, m, items, res, rfl, U, hnL, hm1, hm2, hm3, hop, hm4, hpl, hst, hgo, hkp, hcnt, hlens⟩
    cases ys with
    | nil =>
      refine under_done (hA₁ _) (B.keeps hkp) U fun s₅ hk₅ hg₅ ho₅ => wpAny_execs_nil ?_
      have hn₅ := hnL.at' fun o e => hk₅ _ _ o hoL e
      have hpl₅ := hpl.at fun o e => hk₅ _ _ o hor e
      have kp₅ : Kp s.heap s₅.heap := fun b o e => hk₅ b o o (k₃ b o e) (hkp b o e)
      have fin : ∀ s₆, Kp s.heap s₆.heap → s₆.gens = s₅.gens → s₆.os = s₅.os → Aft s s₆ := fun s₆ k g o => ⟨k, let ⟨gs, e, b⟩ := hg₅; ⟨[gs], by rw [g, e]; apply Array.ext'; simp, by simpa using b⟩, o.trans ho₅⟩
      refine wpAny_execs_cons (wpAny_If (wpAny_isTrue_Compare1 (nm_loc hn₅ hm2 (Call_ (nm_boot (B.keeps kp₅) boot_len (callWith_builtin1 (spliced_more (nm_loc hn₅ hm1 (spliced_none (len_str (by omega) (lt_int (wpAny_truthy_bool ?_)))))))))))) 
      have hlast : stripGo x st op res [] = if st < x.length then res ++ [Txt.slice x (some st) none] else res := by cases op <;> rfl
      have hjoin : stripF x = Txt.join (Str.ofString "") (stripGo x 0 none [] (escGo 0 false x.cps.toList)) := by unfold stripF; rw [if_neg (by rw [hocc]; exact Bool.false_ne_true)]
      rw [hlast] at hgo
      by_cases hlt : st < x.length
      · rw [if_pos (decide_eq_true hlt)]
        rw [if_pos hlt] at hgo
        refine wpAny_execs_cons (wpAny_Expr_any (MethodCall_ (nm_loc hn₅ hm4 (gm_append hpl₅ (callWith_method1 (spliced_more (Subscript_ (nm_loc hn₅ hm1 (wpAny_Slice (evalPart_some_step (nm_loc hn₅ hm2 (evalPart_none_step (evalPart_none_step (slice_sn (fun h₆ t₆ k₆ hk₆ => ?_) (Nat.le_trans hlen (by decide))))))))))))))))
        refine spliced_none (wpAny_list_append_plain (hpl₅.at fun o e => hk₆ _ o e) (fun h₇ hpl₇ hs₇ => ?_) ?_)
        · refine wpAny_execs_nil ?_
          have kp₇ : Kp s.heap h₇ := fun b o e => hs₇.extBut b o (lowr b o e) (hk₆ b o (kp₅ b o e))
          have hn₇ : h₇.Ns s.heap.objs.size m := (hn₅.keeps hk₆).sameBut hs₇ hLr
          refine wpAny_execs_cons (wpAny_Return_some (MethodCall_ (wpAny_Constant_str (GM.join (callWith_method1 (spliced_more (nm_loc hn₇ hm4 (spliced_none (join_listW hpl₇.isList (strsAre_push hst) (by decide) ?_ fun t' k => ?_)))))))))
          · have h1 := sum_le_of res hlens
            have h2 : (Txt.slice x (some st) none).length ≤ x.length := Txt.slice_le ..
            simp only [List.map_append, List.sum_append, List.length_append, List.map_cons, List.map_nil, List.sum_cons, List.sum_nil, List.length_cons, List.length_nil] at hcnt ⊢
            omega
          · show Q (.str (Txt.join (Str.ofString "") (res ++ [Txt.slice x (some st) none])) t') _
            rw [hgo, ← hjoin]
            exact hQ t' _ (fin _ kp₇ rfl rfl)
        · rw [strsAre_size hst]
          exact Nat.le_trans (Nat.le_trans (Nat.le_add_right _ _) hcnt) (by decide)
      · rw [if_neg (by rw [decide_eq_false hlt]; exact Bool.false_ne_true)]
        rw [if_neg hlt] at hgo
        refine wpAny_execs_nil ?_
        refine wpAny_execs_cons (wpAny_Return_some (MethodCall_ (wpAny_Constant_str (GM.join (callWith_method1 (spliced_more (nm_loc hn₅ hm4 (spliced_none (join_listW hpl₅.isList hst (by decide) ?_ fun t' k => ?_)))))))))
        · have h1 := sum_le_of res hlens
          simp only [List.length_nil] at hcnt
          omega
        · show Q (.str (Txt.join (Str.ofString "") res) t') _
          rw [hgo, ← hjoin]
          exact hQ t' _ (fin _ kp₅ rfl rfl)
    | cons z ys =>
      refine under_next (hA₁ _) (B.keeps hkp) U fun T tz uz s₅ hT hk₅ U₅ => ?_
      obtain ⟨fp₅, G₅, _⟩ := U₅.at_
      refine go_gen G₅.obj ?_
      refine assign_pair hA.hh hT (hnL.at' fun o e => hk₅ _ _ o hoL e) fun h₆ tk₆ hn₆ hk₆ => ?_
      have hpl₅ := hpl.at fun o e => hk₅ _ _ o hor e
      have kp₆ : Kp s.heap h₆ := fun b o e => hk₆ b o (low b o e) (hk₅ b o o (k₃ b o e) (hkp b o e))
      have hpl₆ : h₆.PlainList r items := hpl₅.at fun o e => hk₆ _ o (Ne.symm hLr) e
      have through : ∀ {y : Str} {v : Option Value}, m y = v → y ≠ Str.ofString "ch" → y ≠ Str.ofString "pos" → (if y = Str.ofString "ch" then some (Value.str z.2 uz) else if y = Str.ofString "pos" then some (Value.int z.1 tz) else m y) = v := fun h h1 h2 => by
        rw [if_neg h1, if_neg h2]; exact h
      have hm1' := through hm1 (by decide) (by decide)
      have hm2' := through hm2 (by decide) (by decide)
      have hm3' := through hm3 (by decide) (by decide)
      have hm4' := through hm4 (by decide) (by decide)
      have U₆ : ∀ (h₇ : Heap) (tk' : Nat), (∀ b o, b ∉ [s.heap.objs.size, r] → h₆.get? b = some o → h₇.get? b = some o) → (∀ b ∈ [s.heap.objs.size, r], ∃ o, h₇.get? b = some o) → Under prog w { s with heap := h₃ } a ys { s₅ with heap := h₇, toks := tk' } :=
        fun h₇ tk' hk hl => U₅.to hown (fun b o hb e => hk b o hb (hk₆ b o (out2 b hb).1 e)) hl
      have step : ∀ (h₇ : Heap) (t' : Nat) (st' : Int) (tk₇ : Tok) (op' : Option Int) (ov' : Value) (mm : Str → Option Value) (its : Array Value) (res' : List Str), h₇.Ns s.heap.objs.size mm → mm "addr" = some (.str x t) → mm "start" = some (.int st' tk₇) →
          mm "open_pos" = some ov' → (match op' with | none => ov' = .none | some o => ∃ u, ov' = .int o u) → mm "result" = some (.ref r) → h₇.PlainList r its → StrsAre its.toList res' → (∀ b o, b ∉ [s.heap.objs.size, r] → h₆.get? b = some o → h₇.get? b = some o) →
          stripGo x st' op' res' ys = stripGo x st op res (z :: ys) → res'.length ≤ res.length + 1 → (∀ y ∈ res', y.length ≤ 200) →
          ∃ k, k < (z :: ys).length + 1 ∧ ∃ ys st tk op ov m items res, k = ys.length + 1 ∧ Under prog w { s with heap := h₃ } a ys { s₅ with heap := h₇, toks := t' } ∧ h₇.Ns s.heap.objs.size m ∧ m "addr" = some (.str x t) ∧ m "start" = some (.int st tk) ∧
            m "open_pos" = some ov ∧ (match op with | none => ov = .none | some o => ∃ u, ov = .int o u) ∧ m "result" = some (.ref r) ∧ h₇.PlainList r items ∧ StrsAre items.toList res ∧
            stripGo x st op res ys = stripGo x 0 none [] (escGo 0 false x.cps.toList) ∧ Kp s.heap h₇ ∧ res.length + ys.length ≤ 200 ∧ ∀ y ∈ res, y.length ≤ 200 := by
        intro h₇ t' st' tk₇ op' ov' mm its res' a1 a2 a3 a4 a5 a6 a7 a8 a9 a10 a11 a12
        refine ⟨ys.length + 1, by simp, ys, st', tk₇, op', ov', mm, its, res', rfl, U₆ h₇ t' a9 ?_, a1, a2, a3, a4, a5, a6, a7, a8, a10.trans hgo, fun b o e => a9 b o ?_ (kp₆ b o e), ?_, a12⟩
        · intro b hb
          simp only [List.mem_cons, List.not_mem_nil, or_false] at hb
          rcases hb with rfl | rfl
          · exact let ⟨o, _, _, e, _⟩ := a1; ⟨o, e⟩
          · exact let ⟨n, e⟩ := a7; ⟨_, e⟩
        · simp only [List.mem_cons, List.not_mem_nil, or_false, not_or]
          exact ⟨low b o e, lowr b o e⟩
        · simp only [List.length_cons] at hcnt; omega
      refine wpAny_execs_cons (wpAny_If (wpAny_isTrue_Compare1 (nm_loc hn₆ rfl (wpAny_Constant_str (eq_str (wpAny_truthy_bool ?_))))))
      rw [beq_lit (b := ⟨#[34]⟩) (by decide +kernel)]
      by_cases h34 : z.2 = ⟨#[34]⟩
      · rw [if_pos (decide_eq_true h34)]
        refine wpAny_execs_cons (wpAny_If (wpAny_isTrue_Compare1 (nm_loc hn₆ hm3' (wpAny_Constant_none (is_none_gen (wpAny_truthy_bool ?_))))))
        cases op with
        | none =>
          cases hop
          rw [if_pos (by decide)]
          refine wpAny_execs_cons (wpAny_Assign_Name (nm_loc hn₆ rfl (st_loc hn₆ fun h₇ hn₇ hs₇ => wpAny_execs_nil (wpAny_execs_nil (wpAny_execs_nil ?_)))))
          exact step h₇ _ st tk (some z.1) _ _ items res hn₇ (upd_ne hm1' (by decide)) (upd_ne hm2' (by decide)) upd_eq ⟨_, rfl⟩ (upd_ne hm4' (by decide)) (hpl₆.at fun o e => hs₇.extBut _ o (Ne.symm hLr) e) hst
            (fun b o hb e => hs₇.extBut b o (out2 b hb).1 e) (by show _ = if _ then _ else _; rw [if_pos h34]) (by omega) hlens
        | some o =>
          obtain ⟨u, rfl⟩ := hop
          rw [show (Value.int o u == Value.none) = false from rfl, if_neg Bool.false_ne_true]
          refine wpAny_execs_cons (wpAny_If (wpAny_isTrue_Compare1 (nm_loc hn₆ hm2' (nm_loc hn₆ hm3' (ne_int (wpAny_truthy_bool ?_))))))
          by_cases hso : st = o
          · rw [if_neg (by simp [hso])]
            refine wpAny_execs_nil ?_
            refine wpAny_execs_cons (wpAny_Assign_Name (wpAny_BinOp (nm_loc hn₆ rfl (wpAny_Constant_int (add_int (st_loc hn₆ fun h₇ hn₇ hs₇ => ?_))))))
            refine wpAny_execs_cons (wpAny_Assign_Name (wpAny_Constant_none (st_loc hn₇ fun h₈ hn₈ hs₈ => wpAny_execs_nil (wpAny_execs_nil (wpAny_execs_nil ?_)))))
            refine step h₈ _ (z.1 + 1) _ none .none _ items res hn₈ (upd_two hm1' (by decide) (by decide)) (upd_mid (by decide)) (if_pos rfl) rfl (upd_two hm4' (by decide) (by decide)) ?_ hst
              (fun b o hb e => hs₈.extBut b o (out2 b hb).1 (hs₇.extBut b o (out2 b hb).1 e)) (by show _ = if _ then stripGo x (z.1 + 1) none (if st = o then _ else _) ys else _; rw [if_pos h34, if_pos hso]) (by omega) hlens
            exact hpl₆.at fun o e => hs₈.extBut _ o (Ne.symm hLr) (hs₇.extBut _ o (Ne.symm hLr) e)
          · rw [if_pos (by simp [hso])]
            refine wpAny_execs_cons (wpAny_Expr_any (MethodCall_ (nm_loc hn₆ hm4' (gm_append hpl₆ (callWith_method1 (spliced_more (Subscript_ (nm_loc hn₆ hm1' (wpAny_Slice (evalPart_some_step (nm_loc hn₆ hm2' (evalPart_some_step (nm_loc hn₆ hm3' (evalPart_none_step (slice_ss (fun h₇ t₇ k₇ hk₇ => ?_) (Nat.le_trans hlen (by decide)))))))))))))))))
            refine spliced_none (wpAny_list_append_plain (hpl₆.at fun o e => hk₇ _ o e) (fun h₈ hpl₈ hs₈ => ?_) ?_)
            · refine wpAny_execs_nil ?_
              have hn₈ := (hn₆.keeps hk₇).sameBut hs₈ hLr
              refine wpAny_execs_cons (wpAny_Assign_Name (wpAny_BinOp (nm_loc hn₈ rfl (wpAny_Constant_int (add_int (st_loc hn₈ fun h₉ hn₉ hs₉ => ?_))))))
              refine wpAny_execs_cons (wpAny_Assign_Name (wpAny_Constant_none (st_loc hn₉ fun h₁ hn₁ hs₁ => wpAny_execs_nil (wpAny_execs_nil (wpAny_execs_nil ?_)))))
              refine step h₁ _ (z.1 + 1) _ none .none _ (items.push (.str (Txt.slice x (some st) (some o)) t₇)) (res ++ [Txt.slice x (some st) (some o)]) hn₁ (upd_two hm1' (by decide) (by decide)) (upd_mid (by decide)) (if_pos rfl) rfl (upd_two hm4' (by decide) (by decide)) ?_ (strsAre_push hst)
                (fun b o hb e => hs₁.extBut b o (out2 b hb).1 (hs₉.extBut b o (out2 b hb).1 (hs₈.extBut b o (out2 b hb).2 (hk₇ b o e)))) (by show _ = if _ then stripGo x (z.1 + 1) none (if st = o then _ else _) ys else _; rw [if_pos h34, if_neg hso]) (by simp) ?_
              · exact hpl₈.at fun o e => hs₁.extBut _ o (Ne.symm hLr) (hs₉.extBut _ o (Ne.symm hLr) e)
              · intro y hy
                rcases List.mem_append.mp hy with h | h
                · exact hlens y h
                · rw [List.mem_singleton.mp h]
                  exact Nat.le_trans (Txt.slice_le ..) hlen
            · rw [strsAre_size hst]
              exact Nat.le_trans (Nat.le_trans (Nat.le_add_right _ _) hcnt) (by decide)
      · rw [if_neg (by rw [decide_eq_false h34]; exact Bool.false_ne_true)]
        refine wpAny_execs_nil (wpAny_execs_nil ?_)
        exact step h₆ _ st tk op ov _ items res hn₆ hm1' hm2' hm3' hop hm4' hpl₆ hst (fun _ _ _ e => e) (by show _ = if _ then _ else _; rw [if_neg h34]) (by omega) hlens
end
end Mine
end

-- M6
section
open PySem PySem.W PySem.W.X PyProof.Rows
namespace Mine
open Sem (wp)

theorem strsAre_get {vs : List Value} {ss : List Str} (h : StrsAre vs ss) : ∀ {i : Nat} {y : Str}, ss[i]? = some y → ∃ t, vs[i]? = some (.str y t) := by
  induction h with
  | nil => intro i y e; simp at e
  | cons a b _ ih =>
    intro i y e
    cases i with
    | zero => simp at e; subst e; exact ⟨b, rfl⟩
    | succ i => simpa using ih (by simpa using e)
theorem strsAre_len {vs : List Value} {ss : List Str} (h : StrsAre vs ss) : vs.length = ss.length := by
  induction h with
  | nil => rfl
  | cons a b _ ih => simp [ih]

def lowAt (n : Nat) : Nat := if n % 2 = 1 then n / 2 else n / 2 - 1

section
variable {prog : Program} {w : World} {A : Around} {E : Value → Shared → Prop} {s : Shared} {env : Env}

theorem median_low_full {l : Addr} {vs : List Value} {ss : List Str} {Q : Value → Shared → Prop} (hA : Room A) (B : Base w s.heap) (hl : s.heap.IsList l vs.toArray) (hS : StrsAre vs ss) (h64 : vs.length < 64) (hne : ss ≠ [])
    (hQ : ∀ y t h' tk ss', Kp s.heap h' → ss'.Perm ss → sortedS ss' = true → ss'[lowAt ss.length]? = some y → Q (.str y t) { s with heap := h', toks := tk }) :
    wpAny (model prog w) A (call (.ref 55) [.ref l]) Q E s := by
  refine call_fn hA B rfl rfl rfl rfl (by decide) (locs rfl) fun h₀ hn hk B₀ => ?_
  refine wpAny_execs_cons (wpAny_Assign_Name ?_)
  refine Call_ (nm_boot B₀ boot_sorted (PyProof.Rows.callWith_builtin1 (spliced_more (nm_loc hn rfl (spliced_none ?_)))))
  refine sorted_strs (hl.at fun o e => hk _ o e) hS h64 fun out ss' a1 a2 a3 => ?_
  have hk₁ : Kp s.heap (sortedAll h₀ vs out) := fun b o e => sortedAll_old (hk b o e)
  have hn₁ : (sortedAll h₀ vs out).Ns s.heap.objs.size _ := hn.keeps fun b o e => sortedAll_old e
  have hlist : (sortedAll h₀ vs out).IsList (h₀.objs.size + 1) out := let ⟨e, he⟩ := sortedAll_at h₀ vs out; ⟨_, he, rfl, _, rfl⟩
  have hneL : h₀.objs.size + 1 ≠ s.heap.objs.size := by have h1 : s.heap.objs.size < h₀.objs.size := hn.lt; omega
  have hlen : out.size = ss.length := by rw [← Array.length_toList, strsAre_len a1, a2.length_eq]
  have hpos : 0 < ss.length := List.length_pos_iff.mpr hne
  have hlt : ss.length < 64 := by rw [← strsAre_len hS]; exact h64
  have hi1 : ss.length / 2 < ss.length := by omega
  have hi2 : ss.length / 2 - 1 < ss.length := by omega
  refine st_loc hn₁ fun h₂ hn₂ hs₂ => ?_
  have hlist₂ : h₂.IsList (h₀.objs.size + 1) out := hlist.extBut hs₂.extBut hneL
  have hk₂ : Kp s.heap h₂ := fun b o e => hs₂.extBut b o (Nat.ne_of_lt (Heap.lt_size e)) (hk₁ b o e)
  refine wpAny_execs_cons (wpAny_Assign_Name ?_)
  refine Call_ (nm_boot (B.keeps hk₂) boot_len (PyProof.Rows.callWith_builtin1 (spliced_more (nm_loc hn₂ (if_pos rfl) (spliced_none (len_list hlist₂ (by omega) (st_loc hn₂ fun h₃ hn₃ hs₃ => ?_)))))))
  have hlist₃ : h₃.IsList (h₀.objs.size + 1) out := hlist₂.extBut hs₃.extBut hneL
  have hk₃ : Kp s.heap h₃ := fun b o e => hs₃.extBut b o (Nat.ne_of_lt (Heap.lt_size e)) (hk₂ b o e)
  refine wpAny_execs_cons (wpAny_If (wpAny_isTrue_Compare1 (nm_loc hn₃ (if_pos rfl) (wpAny_Constant_int (eq_int (wpAny_truthy_bool ?_))))))
  refine Eq.mpr (if_neg (fun q => ?_)) (wpAny_execs_nil ?_)
  · have : (out.size : Int) = 0 := beq_iff_eq.mp q
    omega
  refine wpAny_execs_cons (wpAny_If (wpAny_isTrue_Compare1 (wpAny_BinOp (nm_loc hn₃ (if_pos rfl) (wpAny_Constant_int (mod_int' (by decide) (wpAny_Constant_int (eq_int (wpAny_truthy_bool ?_)))))))))
  have hfm : ((out.size : Int).fmod 2 == 1) = decide (ss.length % 2 = 1) := by
    rw [hlen, Int.fmod_eq_emod_of_nonneg _ (by decide)]
    by_cases h : ss.length % 2 = 1
    · rw [decide_eq_true h, beq_iff_eq]; omega
    · rw [decide_eq_false h, beq_eq_false_iff_ne]; omega
  have hfd : (out.size : Int).fdiv 2 = ((ss.length / 2 : Nat) : Int) := by
    rw [hlen, Int.fdiv_eq_ediv_of_nonneg _ (by decide)]; omega
  have hm3 : ∀ (v₁ v₂ : Option Value) (mx : Option Value), (if Str.ofString "data" = Str.ofString "n" then v₁ else if Str.ofString "data" = Str.ofString "data" then v₂ else mx) = v₂ := fun v₁ v₂ mx => by rw [if_neg (by decide), if_pos rfl]
  have get : ∀ i : Nat, i < ss.length → ∃ y t, ss'[i]? = some y ∧ out[i]? = some (.str y t) := fun i hi => by
    have h1 : i < ss'.length := by rw [a2.length_eq]; exact hi
    obtain ⟨t, ht⟩ := strsAre_get a1 (List.getElem?_eq_getElem h1)
    exact ⟨_, t, List.getElem?_eq_getElem h1, by simpa using ht⟩
  by_cases hodd : ss.length % 2 = 1
  · refine Eq.mpr (if_pos (hfm.trans (decide_eq_true hodd))) ?_
    refine Exists.elim (get (ss.length / 2) hi1) fun y h1 => Exists.elim h1 fun t h2 => ?_
    have hy := h2.1
    have ho := h2.2
    refine wpAny_execs_cons (wpAny_Return_some (Subscript_ (nm_loc hn₃ (hm3 _ _ _) (wpAny_BinOp (nm_loc hn₃ (if_pos rfl) (wpAny_Constant_int (floordiv_int (by decide) (item_list (x := .str y t) hlist₃ ?_ ?_ ?_ ?_))))))))
    · rw [hfd]; omega
    · rw [hfd]; omega
    · rw [hfd, Int.toNat_natCast]; exact ho
    · exact hQ y t h₃ _ ss' hk₃ a2 a3 (by unfold lowAt; rw [if_pos hodd]; exact hy)
  · refine Eq.mpr (if_neg (fun q => hodd (of_decide_eq_true (hfm.symm.trans q)))) ?_
    refine Exists.elim (get (ss.length / 2 - 1) hi2) fun y h1 => Exists.elim h1 fun t h2 => ?_
    have hy := h2.1
    have ho := h2.2
    refine wpAny_execs_cons (wpAny_Return_some (Subscript_ (nm_loc hn₃ (hm3 _ _ _) (wpAny_BinOp (wpAny_BinOp (nm_loc hn₃ (if_pos rfl) (wpAny_Constant_int (floordiv_int (by decide) (wpAny_Constant_int (sub_int (item_list (x := .str y t) hlist₃ ?_ ?_ ?_ ?_)))))))))))
    · rw [hfd]; omega
    · rw [hfd]; omega
    · rw [hfd, show (((ss.length / 2 : Nat) : Int) - 1).toNat = ss.length / 2 - 1 by omega]; exact ho
    · exact hQ y t h₃ _ ss' hk₃ a2 a3 (by unfold lowAt; rw [if_neg hodd]; exact hy)
theorem median_high_full {l : Addr} {vs : List Value} {ss : List Str} {Q : Value → Shared → Prop} (hA : Room A) (B : Base w s.heap) (hl : s.heap.IsList l vs.toArray) (hS : StrsAre vs ss) (h64 : vs.length < 64) (hne : ss ≠ [])
    (hQ : ∀ y t h' tk ss', Kp s.heap h' → ss'.Perm ss → sortedS ss' = true → ss'[ss.length / 2]? = some y → Q (.str y t) { s with heap := h', toks := tk }) :
    wpAny (model prog w) A (call (.ref 62) [.ref l]) Q E s := by
  refine call_fn hA B rfl rfl rfl rfl (by decide) (locs rfl) fun h₀ hn hk B₀ => ?_
  refine wpAny_execs_cons (wpAny_Assign_Name ?_)
  refine Call_ (nm_boot B₀ boot_sorted (PyProof.Rows.callWith_builtin1 (spliced_more (nm_loc hn rfl (spliced_none ?_)))))
  refine sorted_strs (hl.at fun o e => hk _ o e) hS h64 fun out ss' a1 a2 a3 => ?_
  have hk₁ : Kp s.heap (sortedAll h₀ vs out) := fun b o e => sortedAll_old (hk b o e)
  have hn₁ : (sortedAll h₀ vs out).Ns s.heap.objs.size _ := hn.keeps fun b o e => sortedAll_old e
  have hlist : (sortedAll h₀ vs out).IsList (h₀.objs.size + 1) out := let ⟨e, he⟩ := sortedAll_at h₀ vs out; ⟨_, he, rfl, _, rfl⟩
  have hneL : h₀.objs.size + 1 ≠ s.heap.objs.size := by have h1 : s.heap.objs.size < h₀.objs.size := hn.lt; omega
  have hlen : out.size = ss.length := by rw [← Array.length_toList, strsAre_len a1, a2.length_eq]
  have hpos : 0 < ss.length := List.length_pos_iff.mpr hne
  have hlt : ss.length < 64 := by rw [← strsAre_len hS]; exact h64
  have hi1 : ss.length / 2 < ss.length := by omega
  have hi2 : ss.length / 2 - 1 < ss.length := by omega
  refine st_loc hn₁ fun h₂ hn₂ hs₂ => ?_
  have hlist₂ : h₂.IsList (h₀.objs.size + 1) out := hlist.extBut hs₂.extBut hneL
  have hk₂ : Kp s.heap h₂ := fun b o e => hs₂.extBut b o (Nat.ne_of_lt (Heap.lt_size e)) (hk₁ b o e)
  refine wpAny_execs_cons (wpAny_Assign_Name ?_)
  refine Call_ (nm_boot (B.keeps hk₂) boot_len (PyProof.Rows.callWith_builtin1 (spliced_more (nm_loc hn₂ (if_pos rfl) (spliced_none (len_list hlist₂ (by omega) (st_loc hn₂ fun h₃ hn₃ hs₃ => ?_)))))))
  have hlist₃ : h₃.IsList (h₀.objs.size + 1) out := hlist₂.extBut hs₃.extBut hneL
  have hk₃ : Kp s.heap h₃ := fun b o e => hs₃.extBut b o (Nat.ne_of_lt (Heap.lt_size e)) (hk₂ b o e)
  refine wpAny_execs_cons (wpAny_If (wpAny_isTrue_Compare1 (nm_loc hn₃ (if_pos rfl) (wpAny_Constant_int (eq_int (wpAny_truthy_bool ?_))))))
  refine Eq.mpr (if_neg (fun q => ?_)) (wpAny_execs_nil ?_)
  · have : (out.size : Int) = 0 := beq_iff_eq.mp q
    omega
  have hfd : (out.size : Int).fdiv 2 = ((ss.length / 2 : Nat) : Int) := by
    rw [hlen, Int.fdiv_eq_ediv_of_nonneg _ (by decide)]; omega
  have hm3 : ∀ (v₁ v₂ : Option Value) (mx : Option Value), (if Str.ofString "data" = Str.ofString "n" then v₁ else if Str.ofString "data" = Str.ofString "data" then v₂ else mx) = v₂ := fun v₁ v₂ mx => by rw [if_neg (by decide), if_pos rfl]
  have get : ∀ i : Nat, i < ss.length → ∃ y t, ss'[i]? = some y ∧ out[i]? = some (.str y t) := fun i hi => by
    have h1 : i < ss'.length := by rw [a2.length_eq]; exact hi
    obtain ⟨t, ht⟩ := strsAre_get a1 (List.getElem?_eq_getElem h1)
    exact ⟨_, t, List.getElem?_eq_getElem h1, by simpa using ht⟩
  refine Exists.elim (get (ss.length / 2) hi1) fun y h1 => Exists.elim h1 fun t h2 => ?_
  have hy := h2.1
  have ho := h2.2
  refine wpAny_execs_cons (wpAny_Return_some (Subscript_ (nm_loc hn₃ (hm3 _ _ _) (wpAny_BinOp (nm_loc hn₃ (if_pos rfl) (wpAny_Constant_int (floordiv_int (by decide) (item_list (x := .str y t) hlist₃ ?_ ?_ ?_ ?_))))))))
  · rw [hfd]; omega
  · rw [hfd]; omega
  · rw [hfd, Int.toNat_natCast]; exact ho
  · exact hQ y t h₃ _ ss' hk₃ a2 a3 hy
end
end Mine
end

-- M7
section
open PySem PySem.W PySem.W.X PyProof.Rows
namespace Mine
open Sem (wp)

def noMsg : Str := Str.ofString "no median for empty data"

theorem one_le_line : (1 : Nat) ≤ sizeLine := by decide
noncomputable def sEntries (w : World) : Array DictEntry := match (Mine.hd.heap_39 w.params).lookup 44 with
  | some ⟨_, _, .dict es _, _⟩ => es
  | _ => #[]
theorem Base.sns {w : World} {h : Heap} (B : Base w h) : h.Ns 44 (nsFind (sEntries w)) := ⟨_, _, _, B.k 44 _ rfl, rfl, strKeys_of rfl, fun _ => rfl⟩

section
variable {prog : Program} {w : World} {A : Around} {E : Value → Shared → Prop} {s : Shared} {env : Env}

theorem median_low_none {l : Addr} {base : Heap} {outer : List Env} {Q : Value → Shared → Prop} (hA : Room A) (B : Base w s.heap) (hfr : A.frames = some outer) (hb : base.StaysIn s.heap) (hff : s.heap.FunFrames base outer) (hl : s.heap.IsList l #[])
    (hE : ∀ e t u h' tk, Heap.FlyingW base outer e (.ref 45) (.ref t) h' → h'.TupAt t [.str noMsg u] → s.heap.UpToSlots h' → E (.ref e) { s with heap := h', toks := tk }) :
    wpAny (model prog w) A (call (.ref 55) [.ref l]) Q E s := by
  refine wpAny_call (codeAny_call_def (Nat.lt_of_lt_of_le hA.depth (by decide)) (B.k 55 _ rfl) rfl B.lim (codeRec_of B.k rfl) rfl (.of_eq rfl) (by decide) (locs rfl) fun h₀ hn hk => ?_)
  have B₀ : Base w h₀ := B.keeps hk
  refine wpAny_execs_cons (wpAny_Assign_Name ?_)
  refine Call_ (nm_boot B₀ boot_sorted (PyProof.Rows.callWith_builtin1 (spliced_more (nm_loc hn rfl (spliced_none ?_)))))
  refine sorted_strs (vs := []) (hl.at fun o e => hk _ o e) .nil (by decide) fun out ss' a1 a2 a3 => ?_
  have hk₁ : Kp s.heap (sortedAll h₀ [] out) := fun b o e => sortedAll_old (hk b o e)
  have hn₁ : (sortedAll h₀ [] out).Ns s.heap.objs.size _ := hn.keeps fun b o e => sortedAll_old e
  have hlist : (sortedAll h₀ [] out).IsList (h₀.objs.size + 1) out := let ⟨e, he⟩ := sortedAll_at h₀ [] out; ⟨_, he, rfl, _, rfl⟩
  have hneL : h₀.objs.size + 1 ≠ s.heap.objs.size := by have h1 : s.heap.objs.size < h₀.objs.size := hn.lt; omega
  have hlen : out.size = 0 := by rw [← Array.length_toList, strsAre_len a1, a2.length_eq]; rfl
  refine st_loc hn₁ fun h₂ hn₂ hs₂ => ?_
  have hlist₂ : h₂.IsList (h₀.objs.size + 1) out := hlist.extBut hs₂.extBut hneL
  have hk₂ : Kp s.heap h₂ := fun b o e => hs₂.extBut b o (Nat.ne_of_lt (Heap.lt_size e)) (hk₁ b o e)
  refine wpAny_execs_cons (wpAny_Assign_Name ?_)
  refine Call_ (nm_boot (B.keeps hk₂) boot_len (PyProof.Rows.callWith_builtin1 (spliced_more (nm_loc hn₂ (if_pos rfl) (spliced_none (len_list hlist₂ (by omega) (st_loc hn₂ fun h₃ hn₃ hs₃ => ?_)))))))
  have hk₃ : Kp s.heap h₃ := fun b o e => hs₃.extBut b o (Nat.ne_of_lt (Heap.lt_size e)) (hk₂ b o e)
  have B₃ := B.keeps hk₃
  refine wpAny_execs_cons (wpAny_If (wpAny_isTrue_Compare1 (nm_loc hn₃ (if_pos rfl) (wpAny_Constant_int (eq_int (wpAny_truthy_bool ?_))))))
  refine Eq.mpr (if_pos (beq_iff_eq.mpr (by omega))) ?_
  have hnew : base.get? s.heap.objs.size = none := by
    cases q : base.get? s.heap.objs.size with
    | none => rfl
    | some o => exact absurd (Heap.lt_size (hb _ _ q)) (Nat.lt_irrefl _)
  refine wpAny_execs_cons (wpAny_Raise_call_subT F.excBase_ValueError (C := 45) (N := 44) (bm := [.type "ValueError", .type "Exception", .type "BaseException", .type "object"]) (mN := nsFind (sEntries w)) (by decide) hA.hh rfl rfl (nm_glob B₃ rfl ⟨rfl, Calls.evalArgs_plain (Calls.spliced_cons (wpAny_Constant_str (k := 0) (pos := default) (Calls.spliced_nil ⟨rfl, one_le_line, B₃.k 45 _ rfl, B₃.sns, .base, fun h' e hx => ?_⟩)))⟩))
  refine wpAny_leaves_madeW (base := base) (outer := outer) (by rw [Around.deeper, hfr]; rfl) rfl (fun b o e => hk₃ b o (hb b o e)) (.cons (show ScopeKind.function ≠ ScopeKind.module by decide) rfl hn₃ hnew (hff.of_keeps fun b o e _ => ⟨o, hk₃ b o e, rfl⟩)) hx fun h'' t hfl ht htn hup => ?_
  exact hE e t _ h'' _ hfl ht ((Heap.UpToSlots.of_keeps hk₃).trans ((Heap.UpToSlots.of_keeps hx.keeps).trans hup))
theorem median_high_none {l : Addr} {base : Heap} {outer : List Env} {Q : Value → Shared → Prop} (hA : Room A) (B : Base w s.heap) (hfr : A.frames = some outer) (hb : base.StaysIn s.heap) (hff : s.heap.FunFrames base outer) (hl : s.heap.IsList l #[])
    (hE : ∀ e t u h' tk, Heap.FlyingW base outer e (.ref 45) (.ref t) h' → h'.TupAt t [.str noMsg u] → s.heap.UpToSlots h' → E (.ref e) { s with heap := h', toks := tk }) :
    wpAny (model prog w) A (call (.ref 62) [.ref l]) Q E s := by
  refine wpAny_call (codeAny_call_def (Nat.lt_of_lt_of_le hA.depth (by decide)) (B.k 62 _ rfl) rfl B.lim (codeRec_of B.k rfl) rfl (.of_eq rfl) (by decide) (locs rfl) fun h₀ hn hk => ?_)
  have B₀ : Base w h₀ := B.keeps hk
  refine wpAny_execs_cons (wpAny_Assign_Name ?_)
  refine Call_ (nm_boot B₀ boot_sorted (PyProof.Rows.callWith_builtin1 (spliced_more (nm_loc hn rfl (spliced_none ?_)))))
  refine sorted_strs (vs := []) (hl.at fun o e => hk _ o e) .nil (by decide) fun out ss' a1 a2 a3 => ?_
  have hk₁ : Kp s.heap (sortedAll h₀ [] out) := fun b o e => sortedAll_old (hk b o e)
  have hn₁ : (sortedAll h₀ [] out).Ns s.heap.objs.size _ := hn.keeps fun b o e => sortedAll_old e
  have hlist : (sortedAll h₀ [] out).IsList (h₀.objs.size + 1) out := let ⟨e, he⟩ := sortedAll_at h₀ [] out; ⟨_, he, rfl, _, rfl⟩
  have hneL : h₀.objs.size + 1 ≠ s.heap.objs.size := by have h1 : s.heap.objs.size < h₀.objs.size := hn.lt; omega
  have hlen : out.size = 0 := by rw [← Array.length_toList, strsAre_len a1, a2.length_eq]; rfl
  refine st_loc hn₁ fun h₂ hn₂ hs₂ => ?_
  have hlist₂ : h₂.IsList (h₀.objs.size + 1) out := hlist.extBut hs₂.extBut hneL
  have hk₂ : Kp s.heap h₂ := fun b o e => hs₂.extBut b o (Nat.ne_of_lt (Heap.lt_size e)) (hk₁ b o e)
  refine wpAny_execs_cons (wpAny_Assign_Name ?_)
  refine Call_ (nm_boot (B.keeps hk₂) boot_len (PyProof.Rows.callWith_builtin1 (spliced_more (nm_loc hn₂ (if_pos rfl) (spliced_none (len_list hlist₂ (by omega) (st_loc hn₂ fun h₃ hn₃ hs₃ => ?_)))))))
  have hk₃ : Kp s.heap h₃ := fun b o e => hs₃.extBut b o (Nat.ne_of_lt (Heap.lt_size e)) (hk₂ b o e)
  have B₃ := B.keeps hk₃
  refine wpAny_execs_cons (wpAny_If (wpAny_isTrue_Compare1 (nm_loc hn₃ (if_pos rfl) (wpAny_Constant_int (eq_int (wpAny_truthy_bool ?_))))))
  refine Eq.mpr (if_pos (beq_iff_eq.mpr (by omega))) ?_
  have hnew : base.get? s.heap.objs.size = none := by
    cases q : base.get? s.heap.objs.size with
    | none => rfl
    | some o => exact absurd (Heap.lt_size (hb _ _ q)) (Nat.lt_irrefl _)
  refine wpAny_execs_cons (wpAny_Raise_call_subT F.excBase_ValueError (C := 45) (N := 44) (bm := [.type "ValueError", .type "Exception", .type "BaseException", .type "object"]) (mN := nsFind (sEntries w)) (by decide) hA.hh rfl rfl (nm_glob B₃ rfl ⟨rfl, Calls.evalArgs_plain (Calls.spliced_cons (wpAny_Constant_str (k := 0) (pos := default) (Calls.spliced_nil ⟨rfl, one_le_line, B₃.k 45 _ rfl, B₃.sns, .base, fun h' e hx => ?_⟩)))⟩))
  refine wpAny_leaves_madeW (base := base) (outer := outer) (by rw [Around.deeper, hfr]; rfl) rfl (fun b o e => hk₃ b o (hb b o e)) (.cons (show ScopeKind.function ≠ ScopeKind.module by decide) rfl hn₃ hnew (hff.of_keeps fun b o e _ => ⟨o, hk₃ b o e, rfl⟩)) hx fun h'' t hfl ht htn hup => ?_
  exact hE e t _ h'' _ hfl ht ((Heap.UpToSlots.of_keeps hk₃).trans ((Heap.UpToSlots.of_keeps hx.keeps).trans hup))
end
end Mine
end

-- M8
section
open PySem PySem.W PySem.W.X PyProof.Rows
namespace Mine
open Sem (wp)
open Builtin Builtin.Str Builtin.BaseException Builtin.Exceptions

/-- an exception of the own class, with its arguments' tuple -/
def OwnAt (h : Heap) (e t0 : Addr) : Prop := ∃ o vs, h.get? e = some o ∧ o.cls = .ref 45 ∧ o.data = .fields vs ∧ vs[0]? = some (.ref t0)

section
variable {prog : Program} {w w' : World} {A : Around} {E : Value → Shared → Prop} {s : Shared} {e t0 : Addr}

theorem own_args {M : Model} {items : List Value} {Q : Value × List Value → Shared → Prop} (x : OwnAt s.heap e t0) (ht : s.heap.TupAt t0 items) (hq : Q (.ref t0, items) s) :
    wpAny M A (bexcArgs (.ref e)) Q E s := by
  obtain ⟨o, vs, ho, _, hd, h0⟩ := x
  obtain ⟨ot, k, hto, _, htd⟩ := ht
  unfold bexcArgs
  refine wpAny_bind (wpAny_field ho hd h0 (wpAny_bind (wpAny_seqItems hto htd ?_)))
  have : items.toArray.toList = items := by simp
  show wpAny M A (pure (Value.ref t0, items.toArray.toList)) Q E s
  rw [this]; exact wpAny_pure hq

theorem own_str_entry {m : Str} {tk : Tok} {Q : PySem.Fin → Shared → Prop} (x : OwnAt s.heap e t0) (ht : s.heap.TupAt t0 [.str m tk]) (hq : Q (.done (.ret (.str m tk))) s) :
    wpAny (model prog w') A (Builtin.«BaseException.__str__» ⟨[.ref e], []⟩) Q E s := by
  unfold Builtin.«BaseException.__str__»
  repeat (first | with_reducible refine own_args x ht ?_ | wp_step)
  exact hq

theorem own_check {M : Model} {Q : Unit → Shared → Prop} (B : Base w s.heap) (x : OwnAt s.heap e t0) (hq : Q () s) : wpAny M A (checkBuiltinCall "BaseException.__str__" ⟨[.ref e], []⟩) Q E s := by
  obtain ⟨h, g, d, t, os⟩ := s
  obtain ⟨o, vs, ho, hc, hd, h0⟩ := x
  have hk : builtinKind "BaseException.__str__" = some .slot := by decide +kernel
  have hsplit : splitId "BaseException.__str__" = some ("BaseException", "__str__") := by decide +kernel
  have ha := F.args_bexc_str (.ref e)
  have hC := B.k 45 _ rfl
  simp only [checkBuiltinCall, hk, hsplit]
  refine wpAny_bind ?_
  unfold isInstance
  repeat (first | (with_reducible refine wpAny_loadPart_at ho ?_; rw [hc]) | (with_reducible refine wpAny_isSubtype_exc hC ?_) | wp_step)
  exact hq

theorem own_special {m : Str} {tk : Tok} {Q : Option Value → Shared → Prop} (B : Base w s.heap) (x : OwnAt s.heap e t0) (ht : s.heap.TupAt t0 [.str m tk]) (hq : Q (some (.str m tk)) s) :
    wpAny (model prog w') A (callSpecial? (.ref e) "__str__") Q E s := by
  have hcall : wpAny (model prog w') A (call (.builtin "BaseException.__str__") [.ref e]) (fun v => Q (some v)) E s := by
    refine wpAny_call (codeAny_call_builtin F.excStr_ValueError.str.plain F.entry_bexc_str (own_check B x ?_))
    exact own_str_entry x ht hq
  simp only [callSpecial?, specialOf]
  refine wpAny_bind (wpAny_bind ?_)
  obtain ⟨h, g, d, t, os⟩ := s
  obtain ⟨o, vs, ho, hc, hd, h0⟩ := x
  have hC := B.k 45 _ rfl
  unfold typeOf
  repeat (first | (with_reducible refine wpAny_loadPart_at ho ?_; rw [hc]) | wp_step)
  refine wpAny_typeLookup_exc (B := "ValueError") (mN := nsFind (sEntries w)) (y := some (.builtin "BaseException.__str__")) hC B.sns F.excBase_ValueError.mroIs F.excStr_ValueError.str.lookup ?_
  show wpAny _ _ (holding _ (bindSpecial (.builtin "BaseException.__str__") (.ref e) >>= _)) _ _ _
  rw [F.excStr_ValueError.str.bind]
  exact wpAny_holding (wpAny_bind (wpAny_pure (wpAny_bind (wpAny_mono hcall (fun v s' h' => wpAny_pure h') fun _ _ h' => h'))))

theorem own_strOf {m : Str} {tk : Tok} {Q : Value → Shared → Prop} (hu : A.units < cLine) (B : Base w s.heap) (x : OwnAt s.heap e t0) (ht : s.heap.TupAt t0 [.str m tk]) (hq : Q (.str m tk) s) :
    wpAny (model prog w') A (Builtin.Str.strOf (.ref e)) Q E s := by
  unfold Builtin.Str.strOf
  repeat (first | with_reducible refine wpAny_cRoomFor hu ?_ | with_reducible refine own_special B x ht ?_ | wp_step)
  exact hq

theorem own_str {m : Str} {tk : Tok} {Q : Value → Shared → Prop} (hu : A.units + 2 < cLine) (B : Base w s.heap) (x : OwnAt s.heap e t0) (ht : s.heap.TupAt t0 [.str m tk]) (h : Q (.str m tk) s) :
    wpAny (model prog w) A (call (.type "str") [.ref e]) Q E s :=
  callType_new F.called_str (by decide) (F.typeCall_str_1 _) (F.newCall_str_1 _) (fun obj => F.args_object_init_2 obj _) F.entry_str_new
    (meets_str_new (S := fun A' R s' => A'.units + 1 < cLine ∧ Base w s'.heap ∧ OwnAt s'.heap e t0 ∧ s'.heap.TupAt t0 [.str m tk] ∧ R (.ok (.ret (.str m tk))) s')
      fun _ _ A' _ _ hq => own_strOf (A := A'.in1) hq.1 hq.2.1 hq.2.2.1 hq.2.2.2.1 hq.2.2.2.2)
    ⟨(show A.units + 1 + 1 < cLine from hu), B, x, ht, typeIs_str _ _ _, h⟩
end
end Mine
end

-- M9
section
open PySem PySem.W PySem.W.X PyProof.Rows PySem.Spec PySem.SeqAt PyProof.V
namespace Mine
open Sem (wp)

theorem readsAll_of_strs {h : Heap} : ∀ {vs : List Value} {ss : List Str}, StrsAre vs ss → ReadsAll h vs (ss.map PyData.str) []
  | _, _, .nil => .nil
  | _, _, .cons k t r => by
    have := ReadsAll.cons (Reads.str (h := h) k t) (readsAll_of_strs (h := h) r)
    simpa using this
theorem reads_of_strs {h : Heap} {a : Addr} {vs : List Value} {ss : List Str} (hl : h.IsList a vs.toArray) (hi : StrsAre vs ss) : Reads h (.ref a) (.list (ss.map PyData.str)) [a] := by
  obtain ⟨o, ho, hc, n, hd⟩ := hl
  exact Reads.list ho hc hd (by simpa using readsAll_of_strs hi)
theorem canLayAll0_strs : ∀ ns : List Str, (∀ x ∈ ns, PyData.strOk x = true) → PyData.canLayAll0 (ns.map PyData.str) = true
  | [], _ => by simp [PyData.canLayAll0]
  | n :: r, h => by simp [PyData.canLayAll0, PyData.canLay0, canLayAll0_strs r fun x hx => h x (List.mem_cons_of_mem _ hx), h n (List.mem_cons_self)]
theorem depthAll_strs : ∀ ns : List Str, PyData.depthAll (ns.map PyData.str) ≤ 1
  | [] => by simp [PyData.depthAll]
  | n :: r => by
    have := depthAll_strs r
    simp only [List.map_cons, PyData.depthAll, PyData.depth]
    omega
theorem shaped_strs (ns : List Str) (hok : ∀ x ∈ ns, PyData.strOk x = true) : shaped (.list (ns.map PyData.str)) = true := by
  have h1 := depthAll_strs ns
  have h2 : PyData.depth (.list (ns.map PyData.str)) ≤ 64 := by simp only [PyData.depth]; omega
  show (PyData.canLay0 (.list (ns.map PyData.str)) && decide (PyData.depth (.list (ns.map PyData.str)) ≤ 64)) = true
  rw [Bool.and_eq_true]
  exact ⟨by simp only [PyData.canLay0]; exact canLayAll0_strs ns hok, decide_eq_true h2⟩
theorem noMix_strs : ∀ ns ms : List Str, noMixAll (ns.map PyData.str) (ms.map PyData.str) = true
  | [], [] => by simp [noMixAll]
  | [], _ :: _ => by simp [noMixAll]
  | _ :: _, [] => by simp [noMixAll]
  | _ :: r, _ :: q => by simp [noMixAll, noMix, noMix_strs r q]
theorem same_strs : ∀ ns ms : List Str, PySem.Spec.sameAll (ns.map PyData.str) (ms.map PyData.str) = decide (ns = ms)
  | [], [] => by simp [PySem.Spec.sameAll]
  | [], _ :: _ => by simp [PySem.Spec.sameAll]
  | _ :: _, [] => by simp [PySem.Spec.sameAll]
  | n :: r, k :: q => by
    simp only [List.map_cons, PySem.Spec.sameAll, PySem.Spec.same, same_strs r q]
    by_cases h : n = k <;> simp [h]
section
variable {prog : Program} {w : World} {A : Around} {E : Value → Shared → Prop} {s : Shared}
theorem eq_strs {a b : Addr} {vs us : List Value} {ns ms : List Str} {Q : Value → Shared → Prop} (hl : s.heap.IsList a vs.toArray) (hi : StrsAre vs ns) (hl' : s.heap.IsList b us.toArray) (hi' : StrsAre us ms) (hu : A.units + 64 < cLine) (ok : ∀ x ∈ ns, PyData.strOk x = true) (ok' : ∀ x ∈ ms, PyData.strOk x = true)
    (h : Q (.bool (decide (ns = ms))) s) : wpAny (model prog w) A (compareOp .Eq (.ref a) (.ref b)) Q E s :=
  eq_dataH_same (reads_of_strs hl hi) (reads_of_strs hl' hi') (shaped_strs ns ok) (shaped_strs ms ok') hu (by simp only [noMix]; exact noMix_strs ns ms) (by simp only [PySem.Spec.same]; rw [same_strs]; exact h)
theorem ne_strs {a b : Addr} {vs us : List Value} {ns ms : List Str} {Q : Value → Shared → Prop} (hl : s.heap.IsList a vs.toArray) (hi : StrsAre vs ns) (hl' : s.heap.IsList b us.toArray) (hi' : StrsAre us ms) (hu : A.units + 64 < cLine) (ok : ∀ x ∈ ns, PyData.strOk x = true) (ok' : ∀ x ∈ ms, PyData.strOk x = true)
    (h : Q (.bool (!decide (ns = ms))) s) : wpAny (model prog w) A (compareOp .NotEq (.ref a) (.ref b)) Q E s :=
  ne_dataH_same (reads_of_strs hl hi) (reads_of_strs hl' hi') (shaped_strs ns ok) (shaped_strs ms ok') hu (by simp only [noMix]; exact noMix_strs ns ms) (by simp only [PySem.Spec.same]; rw [same_strs]; exact h)
end
end Mine
end

-- M10
section
open PySem PySem.W PySem.W.X PyProof.Rows PySem.Spec PySem.SeqAt PyProof.V
namespace Mine
open Sem (wp)


section
variable {prog : Program} {w : World} {A : Around} {E : Value → Shared → Prop} {s : Shared} {env : Env}
theorem Kp.list {h h' : Heap} {l : Addr} {vs : Array Value} (k : Kp h h') (x : h.IsList l vs) : h'.IsList l vs := x.at fun o e => k _ o e

theorem middle_full {fa l : Addr} {vs : List Value} {ss : List Str} {P : Str → Prop} {Q : Value → Shared → Prop} {oc : Value} {od : Option Addr} {fd : FuncData} {osl : Array (Option Value)}
    (hfa : (Mine.hd.heap_39 w.params).lookup fa = some ⟨oc, od, .func fd, osl⟩) (hA : Room A) (hd : A.depth < 800) (hu : A.units < 4000) (B : Base w s.heap)
    (hl : s.heap.IsList l vs.toArray) (hS : StrsAre vs ss) (ok : ∀ x ∈ ss, PyData.strOk x = true) (h64 : vs.length < 64)
    (hask : ∀ (A : Around) (s : Shared) (Q : Value → Shared → Prop) (E : Value → Shared → Prop), Room A → Base w s.heap → s.heap.IsList l vs.toArray → (∀ y t h' tk, P y → Kp s.heap h' → Q (.str y t) { s with heap := h', toks := tk }) → wpAny (model prog w) A (call (.ref fa) [.ref l]) Q E s)
    (hQ : ∀ y t h' tk, P y → Kp s.heap h' → Q (.str y t) { s with heap := h', toks := tk }) :
    wpAny (model prog w) A (call (.ref 83) [.ref fa, .ref l]) Q E s := by
  have hsz : vs.toArray.size ≤ sizeLine := Nat.le_trans (by simpa using Nat.le_of_lt h64) (show 64 ≤ sizeLine by decide)
  have hl' := hl
  obtain ⟨o, ho, hc, nn, hdat⟩ := hl'
  refine call_fn hA B rfl rfl rfl rfl (by decide) (locs rfl) fun h₀ hn hk B₀ => ?_
  refine wpAny_execs_cons (wpAny_Assign_Name ?_)
  refine Call_ (nm_boot B₀ boot_list (PyProof.Rows.callWith_type1 (spliced_more (nm_loc hn rfl (spliced_none ?_)))))
  refine call_list_seq l (Or.inl rfl) (hk _ _ ho) hc hdat (fun h₁ c₁ k₁ e₁ => ?_) hsz
  refine st_loc (hn.keeps k₁) fun h₂ hn₂ hs₂ => ?_
  have low : ∀ b o, s.heap.get? b = some o → b ≠ s.heap.objs.size := fun b o e => Nat.ne_of_lt (Heap.lt_size e)
  have k₂ : Kp s.heap h₂ := fun b o e => hs₂.extBut b o (low b o e) (k₁ b o (hk b o e))
  have hneL : h₀.objs.size ≠ s.heap.objs.size := Nat.ne_of_gt hn.lt
  have hkept : h₂.IsList h₀.objs.size vs.toArray := ⟨_, hs₂.extBut _ _ hneL e₁, rfl, _, rfl⟩
  refine wpAny_execs_cons (wpAny_Try_except ?_)
  refine wpAny_execs_cons (wpAny_Assign_Name (Call_ (nm_loc hn₂ rfl (callWith_def rfl (spliced_more (nm_loc hn₂ rfl (spliced_none ⟨(B.keeps k₂).k fa _ hfa, ?_⟩)))))))
  refine hask _ _ _ _ (hA.deeper hd hu) (B.keeps k₂) (k₂.list hl) fun y t h₃ tk hP k₃ => ?_
  refine st_loc (hn₂.keeps k₃) fun h₄ hn₄ hs₄ => wpAny_execs_nil (wpAny_execs_nil ?_)
  have k₄ : Kp s.heap h₄ := fun b o e => hs₄.extBut b o (low b o e) (k₃ b o (k₂ b o e))
  refine wpAny_execs_cons (wpAny_If (wpAny_isTrue_Compare1 (nm_loc hn₄ rfl (nm_loc hn₄ rfl (ne_strs (k₄.list hl) hS ((k₃.list hkept).extBut hs₄.extBut hneL) hS ?_ ok ok (wpAny_truthy_bool ?_))))))
  · show A.units + 3 + 64 < cLine
    exact Nat.lt_of_lt_of_le (by omega : A.units + 3 + 64 < 5000) (by decide)
  refine Eq.mpr (if_neg (fun q => ?_)) (wpAny_execs_nil ?_)
  · simp at q
  exact wpAny_execs_cons (wpAny_Return_some (nm_loc hn₄ (if_pos rfl) (hQ y t h₄ _ hP k₄)))
end
end Mine
end

-- M11
section
open PySem PySem.W PySem.W.X PyProof.Rows PySem.Spec PySem.SeqAt PyProof.V
namespace Mine
open Sem (wp)


def fr (l : List Env) : List Addr := l.filterMap (·.frame)
/-- the frames below are alive, and none of them is of the written heap -/
def FrOk (w : World) (h : Heap) (l : List Env) : Prop := ∀ env ∈ l, env.scope.kind ≠ .module ∧ ∃ L o, env.frame = some L ∧ (Mine.hd.heap_39 w.params).lookup L = none ∧ h.get? L = some o ∧ ∀ vs, o.data ≠ .fields vs
/-- all that stood stands; the frames at l up to their slots -/
structure KF (l : List Addr) (h h' : Heap) : Prop where
  keep : ∀ b o, b ∉ l → h.get? b = some o → h'.get? b = some o
  slot : h.UpToSlots h'
theorem KF.refl (l : List Addr) (h : Heap) : KF l h h := ⟨fun _ _ _ e => e, .refl h⟩
theorem KF.trans {l : List Addr} {h h' h'' : Heap} (x : KF l h h') (y : KF l h' h'') : KF l h h'' := ⟨fun b o n e => y.keep b o n (x.keep b o n e), x.slot.trans y.slot⟩
theorem Kp.kf {l : List Addr} {h h' : Heap} (k : Kp h h') : KF l h h' := ⟨fun b o _ e => k b o e, .of_keeps k⟩
theorem slot_list {h h' : Heap} {a : Addr} {vs : Array Value} (k : h.UpToSlots h') (x : h.IsList a vs) : h'.IsList a vs := by
  obtain ⟨o, ho, hc, n, hd⟩ := x
  obtain ⟨sl, e⟩ := k a o ho (fun vs q => by rw [hd] at q; cases q)
  exact ⟨_, e, hc, n, hd⟩
theorem slot_tuple {h h' : Heap} {a : Addr} {vs : Array Value} (k : h.UpToSlots h') (x : h.IsTuple a vs) : h'.IsTuple a vs := by
  obtain ⟨o, ho, hc, n, hd⟩ := x
  obtain ⟨sl, e⟩ := k a o ho (fun vs q => by rw [hd] at q; cases q)
  exact ⟨_, e, hc, n, hd⟩
theorem FrOk.to {w : World} {h h' : Heap} {l : List Env} (x : FrOk w h l) (k : h.UpToSlots h') : FrOk w h' l := fun env he => by
  obtain ⟨h1, L, o, h2, h3, h4, h5⟩ := x env he
  obtain ⟨sl, e⟩ := k L o h4 h5
  exact ⟨h1, L, _, h2, h3, e, h5⟩
theorem FrOk.mem {w : World} {h : Heap} {l : List Env} (x : FrOk w h l) {a : Addr} (ha : a ∈ fr l) : (Mine.hd.heap_39 w.params).lookup a = none ∧ ∃ o, h.get? a = some o ∧ ∀ vs, o.data ≠ .fields vs := by
  obtain ⟨env, he, hf⟩ := List.mem_filterMap.mp ha
  obtain ⟨_, L, o, h2, h3, h4, h5⟩ := x env he
  rw [h2] at hf
  cases hf
  exact ⟨h3, o, h4, h5⟩
theorem Base.kf {w : World} {h h' : Heap} {l : List Env} (B : Base w h) (x : FrOk w h l) (k : KF (fr l) h h') : Base w h' :=
  ⟨fun a o e => k.keep a o (fun hm => by rw [(x.mem hm).1] at e; cases e) (B.k a o e), let ⟨mb, y, z⟩ := B.b; ⟨mb, k.slot.ns y, z⟩, let ⟨mc, y, z⟩ := B.lim; ⟨mc, k.slot.ns y, z⟩⟩
theorem FrOk.fun {w : World} {h : Heap} {l : List Env} {as : List Addr} (x : FrOk w h l) (hs : ∀ a ∈ fr l, a ∈ as) : h.FunFrames (hideAll h as) l := by
  induction l with
  | nil => trivial
  | cons env r ih =>
    obtain ⟨h1, L, o, h2, h3, h4, h5⟩ := x env (.head _)
    refine ⟨h1, ⟨L, o, h2, hideAll_none _ (hs L ?_), h4, h5⟩, ih (fun e he => x e (.tail _ he)) fun a ha => hs a ?_⟩
    · exact List.mem_filterMap.mpr ⟨env, .head _, h2⟩
    · obtain ⟨e, he, hf⟩ := List.mem_filterMap.mp ha
      exact List.mem_filterMap.mpr ⟨e, .tail _ he, hf⟩
theorem FrOk.cons {w : World} {h : Heap} {l : List Env} {env : Env} {L : Addr} {m : Str → Option Value} (x : FrOk w h l) (hk : env.scope.kind ≠ .module) (hf : env.frame = some L) (hn : h.Ns L m) (hz : (Mine.hd.heap_39 w.params).lookup L = none) : FrOk w h (env :: l) := by
  intro e he
  rcases List.mem_cons.mp he with rfl | he
  · obtain ⟨o, es, p, ho, hd, _⟩ := hn
    exact ⟨hk, L, o, hf, hz, ho, fun vs q => by rw [hd] at q; cases q⟩
  · exact x e he
theorem Base.fresh {w : World} {h : Heap} (B : Base w h) : (Mine.hd.heap_39 w.params).lookup h.objs.size = none := by
  cases q : (Mine.hd.heap_39 w.params).lookup h.objs.size with
  | none => rfl
  | some o => exact absurd (Heap.lt_size (B.k _ o q)) (Nat.lt_irrefl _)
theorem flying_own {base h : Heap} {l : List Env} {e t : Addr} (x : Heap.FlyingW base l e (.ref 45) (.ref t) h) : OwnAt h e t := by
  obtain ⟨_, _, _, oe, vs, _, _, _, he, hc, hd, _⟩ := x
  exact ⟨oe, vs, he, hc.1, hd, hc.2⟩
theorem OwnAt.ne {h : Heap} {e t L : Addr} {m : Str → Option Value} (x : OwnAt h e t) (hn : h.Ns L m) : e ≠ L := fun q => by
  obtain ⟨o, vs, ho, hc, hd, _⟩ := x
  obtain ⟨o', es, p, ho', hd', _⟩ := hn
  rw [← q, ho] at ho'
  cases ho'
  rw [hd] at hd'
  cases hd'
theorem tupAt_ne {h : Heap} {t L : Addr} {vs : List Value} {m : Str → Option Value} (x : h.TupAt t vs) (hn : h.Ns L m) : t ≠ L := fun q => by
  obtain ⟨o, k, ho, hc, hd⟩ := x
  obtain ⟨o', es, p, ho', hd', _⟩ := hn
  rw [← q, ho] at ho'
  cases ho'
  rw [hd] at hd'
  cases hd'
end Mine
end

-- M12
section
open PySem PySem.W PySem.W.X PyProof.Rows PySem.Spec PySem.SeqAt PyProof.V
namespace Mine
open Sem (wp)


section
variable {prog : Program} {w : World} {A : Around} {E : Value → Shared → Prop} {s : Shared} {env : Env}

theorem middle_none {fa l : Addr} {outer : List Env} {Q : Value → Shared → Prop} {oc : Value} {od : Option Addr} {fd : FuncData} {osl : Array (Option Value)}
    (hfa : (Mine.hd.heap_39 w.params).lookup fa = some ⟨oc, od, .func fd, osl⟩) (hA : Room A) (hd : A.depth < 800) (hu : A.units < 4000) (B : Base w s.heap) (hfr : A.frames = some outer) (hok : FrOk w s.heap outer)
    (hl : s.heap.IsList l #[])
    (hask : ∀ (A : Around) (s : Shared) (Q : Value → Shared → Prop) (E : Value → Shared → Prop) (base : Heap) (outer : List Env), Room A → Base w s.heap → A.frames = some outer → base.StaysIn s.heap → s.heap.FunFrames base outer → s.heap.IsList l #[] →
      (∀ e t u h' tk, Heap.FlyingW base outer e (.ref 45) (.ref t) h' → h'.TupAt t [.str noMsg u] → s.heap.UpToSlots h' → E (.ref e) { s with heap := h', toks := tk }) → wpAny (model prog w) A (call (.ref fa) [.ref l]) Q E s)
    (hQ : ∀ t h' tk, KF (fr outer) s.heap h' → Q (.str noMsg t) { s with heap := h', toks := tk }) :
    wpAny (model prog w) A (call (.ref 83) [.ref fa, .ref l]) Q E s := by
  have hsz : (#[] : Array Value).size ≤ sizeLine := Nat.zero_le _
  have hl' := hl
  obtain ⟨o, ho, hc, nn, hdat⟩ := hl'
  refine call_fn hA B rfl rfl rfl rfl (by decide) (locs rfl) fun h₀ hn hk B₀ => ?_
  refine wpAny_execs_cons (wpAny_Assign_Name ?_)
  refine Call_ (nm_boot B₀ boot_list (PyProof.Rows.callWith_type1 (spliced_more (nm_loc hn rfl (spliced_none ?_)))))
  refine call_list_seq l (Or.inl rfl) (hk _ _ ho) hc hdat (fun h₁ c₁ k₁ e₁ => ?_) hsz
  refine st_loc (hn.keeps k₁) fun h₂ hn₂ hs₂ => ?_
  have low : ∀ b o, s.heap.get? b = some o → b ≠ s.heap.objs.size := fun b o e => Nat.ne_of_lt (Heap.lt_size e)
  have k₂ : Kp s.heap h₂ := fun b o e => hs₂.extBut b o (low b o e) (k₁ b o (hk b o e))
  have hneL : h₀.objs.size ≠ s.heap.objs.size := Nat.ne_of_gt hn.lt
  have hkept : h₂.IsList h₀.objs.size #[] := ⟨_, hs₂.extBut _ _ hneL e₁, rfl, _, rfl⟩
  have hok₂ : FrOk w h₂ outer := hok.to (.of_keeps k₂)
  have hloc : ∀ {h h' : Heap} {tk : Nat}, KF (fr outer) s.heap h → Heap.SameBut s.heap.objs.size h h' → KF (fr outer) s.heap h' := fun k hs =>
    ⟨fun b o hb e => hs.extBut b o (low b o e) (k.keep b o hb e), fun b o e hf => let ⟨sl, e'⟩ := k.slot b o e hf; ⟨sl, hs.extBut b _ (low b o e) e'⟩⟩
  refine wpAny_execs_cons (wpAny_Try_except ?_)
  refine wpAny_execs_cons (wpAny_Assign_Name (Call_ (nm_loc hn₂ rfl (callWith_def rfl (spliced_more (nm_loc hn₂ rfl (spliced_none ⟨(B.keeps k₂).k fa _ hfa, ?_⟩)))))))
  refine hask _ _ _ _ (hideAll h₂ (s.heap.objs.size :: fr outer)) (_ :: outer) (hA.deeper hd hu) (B.keeps k₂) (by rw [Around.deeper, hfr]; rfl) (fun b o e => of_hideAll _ e)
    ?ff (k₂.list hl) fun e t u h₃ tk fl₃ ht₃ up₃ => ?_
  case ff => exact (hok₂.cons (show ScopeKind.function ≠ ScopeKind.module by decide) rfl hn₂ B.fresh).fun fun a ha => ha
  refine wpAny_looks_onW (by rw [Around.deeper, hfr]; rfl) rfl fl₃ fun h₄ fl₄ up₄ => ?_
  refine wpAny_landsW fl₄ fun h₅ fl₅ up₅ => ?_
  have up25 : h₂.UpToSlots h₅ := up₃.trans (up₄.trans up₅)
  have kf : ∀ {h : Heap}, (hideAll h₂ (s.heap.objs.size :: fr outer)).StaysIn h → h₂.UpToSlots h → KF (fr outer) s.heap h := fun hb hup =>
    ⟨fun b o hm e => hb b o (hideAll_get _ (k₂ b o e) fun q => by
      rcases List.mem_cons.mp q with q | q
      · exact low b o e q
      · exact hm q), (Heap.UpToSlots.of_keeps k₂).trans hup⟩
  have kf₅ := kf fl₅.1 up25
  have B₅ : Base w h₅ := B.kf hok kf₅
  have hown₅ := flying_own fl₅
  refine wpAny_handleBy_cons (codeAny_handlers_test (nm_glob B₅ rfl ?_)) (by intro q; cases q)
  refine Exists.elim hown₅ fun oe he' => Exists.elim he' fun fs he => ?_
  refine wpAny_excMatches_sub_self (bm := [.type "ValueError", .type "Exception", .type "BaseException", .type "object"]) (B₅.k 45 _ rfl) he.1 he.2.1 (by decide) ?_
  refine codeAny_handlers_suite_as (lands_againW fl₅ fun h₆ fl₆ up₆ => ?_)
  have up26 := up25.trans up₆
  have kf₆ := kf fl₆.1 up26
  have hn₆ := up26.ns hn₂
  have hown₆ := flying_own fl₆
  have ht₆ := (ht₃.of_slots up₄).of_slots (up₅.trans up₆)
  refine st_loc hn₆ fun h₇ hn₇ hs₇ => ?_
  have kf₇ := hloc (tk := 0) kf₆ hs₇
  have B₇ : Base w h₇ := B.kf hok kf₇
  have hown₇ : OwnAt h₇ e t := let ⟨o, vs, h1, h2⟩ := hown₆; ⟨o, vs, hs₇.extBut _ _ (hown₆.ne hn₆) h1, h2⟩
  have ht₇ : h₇.TupAt t [.str noMsg u] := let ⟨o, k, h1, h2⟩ := ht₆; ⟨o, k, hs₇.extBut _ _ (tupAt_ne ht₆ hn₆) h1, h2⟩
  refine wpAny_execs_cons (wpAny_Assign_Name ?_)
  refine Call_ (nm_boot B₇ boot_str (PyProof.Rows.callWith_type1 (spliced_more (nm_loc hn₇ (if_pos rfl) (spliced_none ?_)))))
  refine own_str ?_ B₇ hown₇ ht₇ ?_
  · show A.units + 3 + 2 < cLine
    exact Nat.lt_of_lt_of_le (by omega : A.units + 3 + 2 < 5000) (by decide)
  refine st_loc hn₇ fun h₈ hn₈ hs₈ => wpAny_execs_nil ?_
  refine wpAny_nameGoes_keeps rfl hn₈ rfl fun h₉ v hn₉ hs₉ => ?_
  have kf₉ := hloc (tk := 0) (hloc (tk := 0) kf₇ hs₈) hs₉
  have hlist₉ : h₉.IsList h₀.objs.size #[] := (((slot_list up26 hkept).extBut hs₇.extBut hneL).extBut hs₈.extBut hneL).extBut hs₉.extBut hneL
  refine wpAny_execs_cons (wpAny_If (wpAny_isTrue_Compare1 (nm_loc hn₉ rfl (nm_loc hn₉ rfl (ne_strs (vs := []) (us := []) (slot_list kf₉.slot hl) .nil hlist₉ .nil ?_ (by simp) (by simp) (wpAny_truthy_bool ?_))))))
  · show A.units + 3 + 64 < cLine
    exact Nat.lt_of_lt_of_le (by omega : A.units + 3 + 64 < 5000) (by decide)
  refine Eq.mpr (if_neg (fun q => ?_)) (wpAny_execs_nil ?_)
  · simp at q
  exact wpAny_execs_cons (wpAny_Return_some (nm_loc hn₉ rfl (hQ u h₉ _ kf₉)))
end
end Mine
end

-- M13
section
open PySem PySem.W PySem.W.X PyProof.Rows PySem.Spec PySem.SeqAt PyProof.V
namespace Mine
open Sem (wp)


def op : Str := ⟨#[40]⟩
def cl : Str := ⟨#[41]⟩
theorem op_ne : op ≠ cl := by decide
theorem op_lit : Str.ofString "(" = op := by decide +kernel
theorem cl_lit : Str.ofString ")" = cl := by decide +kernel
def Brs (ss : List Str) : Prop := ∀ x ∈ ss, x = op ∨ x = cl
theorem Brs.tail {x : Str} {r : List Str} (h : Brs (x :: r)) : Brs r := fun y hy => h y (.tail _ hy)
def cnt (b : Str) (ss : List Str) : Nat := ss.countP fun x => decide (x = b)
theorem rising_cl : ∀ {r : List Str}, Brs r → risingS cl r = true → r = List.replicate r.length cl
  | [], _, _ => rfl
  | x :: r, hb, h => by
    rcases hb x (.head _) with rfl | rfl
    · simp [risingS, op, cl, ltCps] at h
    · have h2 : risingS cl r = true := by simp only [risingS, Bool.and_eq_true] at h; exact h.2
      rw [List.length_cons, List.replicate_succ, ← rising_cl hb.tail h2]
theorem rising_op : ∀ {r : List Str}, Brs r → risingS op r = true → ∃ a b, r = List.replicate a op ++ List.replicate b cl
  | [], _, _ => ⟨0, 0, rfl⟩
  | x :: r, hb, h => by
    rcases hb x (.head _) with rfl | rfl
    · have h2 : risingS op r = true := by simp only [risingS, Bool.and_eq_true] at h; exact h.2
      obtain ⟨a, b, e⟩ := rising_op hb.tail h2
      exact ⟨a + 1, b, by rw [List.replicate_succ, List.cons_append, ← e]⟩
    · have h2 : risingS cl r = true := by simp only [risingS, Bool.and_eq_true] at h; exact h.2
      exact ⟨0, r.length + 1, by rw [List.replicate_zero, List.nil_append, List.replicate_succ, ← rising_cl hb.tail h2]⟩
theorem sorted_form {r : List Str} (hb : Brs r) (h : sortedS r = true) : ∃ a b, r = List.replicate a op ++ List.replicate b cl := by
  cases r with
  | nil => exact ⟨0, 0, rfl⟩
  | cons x r =>
    rcases hb x (.head _) with rfl | rfl
    · obtain ⟨a, b, e⟩ := rising_op hb.tail h
      exact ⟨a + 1, b, by rw [List.replicate_succ, List.cons_append, ← e]⟩
    · exact ⟨0, r.length + 1, by rw [List.replicate_zero, List.nil_append, List.replicate_succ, ← rising_cl hb.tail h]⟩
theorem cnt_form (a b : Nat) : cnt op (List.replicate a op ++ List.replicate b cl) = a ∧ cnt cl (List.replicate a op ++ List.replicate b cl) = b := by
  unfold cnt
  rw [List.countP_append, List.countP_append, List.countP_replicate, List.countP_replicate, List.countP_replicate, List.countP_replicate]
  have h1 : decide (op = op) = true := by decide
  have h2 : decide (cl = op) = false := by decide
  have h3 : decide (op = cl) = false := by decide
  have h4 : decide (cl = cl) = true := by decide
  rw [h1, h2, h3, h4]
  simp
theorem med_form {ss ss' : List Str} (hb : Brs ss) (hp : ss'.Perm ss) (hs : sortedS ss' = true) : ss' = List.replicate (cnt op ss) op ++ List.replicate (cnt cl ss) cl ∧ ss.length = cnt op ss + cnt cl ss := by
  obtain ⟨a, b, e⟩ := sorted_form (fun x hx => hb x (hp.mem_iff.mp hx)) hs
  have c1 : cnt op ss' = cnt op ss := hp.countP_eq _
  have c2 : cnt cl ss' = cnt cl ss := hp.countP_eq _
  obtain ⟨f1, f2⟩ := cnt_form a b
  rw [e] at c1 c2
  have ea : cnt op ss = a := c1.symm.trans f1
  have eb : cnt cl ss = b := c2.symm.trans f2
  refine ⟨by rw [ea, eb, e], ?_⟩
  rw [ea, eb, ← hp.length_eq, e]
  simp
theorem get_form {a b i : Nat} {y : Str} (h : (List.replicate a op ++ List.replicate b cl)[i]? = some y) : y = if i < a then op else cl := by
  by_cases hi : i < a
  · rw [List.getElem?_append_left (by simpa using hi), List.getElem?_replicate, if_pos hi] at h
    rw [if_pos hi]; exact (Option.some.inj h).symm
  · rw [List.getElem?_append_right (by simpa using hi), List.getElem?_replicate] at h
    rw [if_neg hi]
    split at h
    · exact (Option.some.inj h).symm
    · cases h
theorem low_of {ss ss' : List Str} {y : Str} (hb : Brs ss) (hne : ss ≠ []) (hp : ss'.Perm ss) (hs : sortedS ss' = true) (h : ss'[lowAt ss.length]? = some y) : y = if cnt cl ss ≤ cnt op ss then op else cl := by
  obtain ⟨e, hl⟩ := med_form hb hp hs
  rw [e] at h
  have hpos : 0 < ss.length := List.length_pos_iff.mpr hne
  rw [get_form h]
  have : lowAt ss.length < cnt op ss ↔ cnt cl ss ≤ cnt op ss := by
    unfold lowAt
    split <;> omega
  by_cases q : cnt cl ss ≤ cnt op ss
  · rw [if_pos q, if_pos (this.mpr q)]
  · rw [if_neg q, if_neg fun z => q (this.mp z)]
theorem high_of {ss ss' : List Str} {y : Str} (hb : Brs ss) (hp : ss'.Perm ss) (hs : sortedS ss' = true) (h : ss'[ss.length / 2]? = some y) : y = if cnt op ss ≤ cnt cl ss then cl else op := by
  obtain ⟨e, hl⟩ := med_form hb hp hs
  rw [e] at h
  rw [get_form h]
  by_cases q : cnt op ss ≤ cnt cl ss
  · rw [if_pos q, if_neg (by omega)]
  · rw [if_neg q, if_pos (by omega)]
def lowW (ss : List Str) : Str := if ss = [] then noMsg else if cnt cl ss ≤ cnt op ss then op else cl
def highW (ss : List Str) : Str := if ss = [] then noMsg else if cnt op ss ≤ cnt cl ss then cl else op
theorem Brs.ok {ss : List Str} (h : Brs ss) : ∀ x ∈ ss, PyData.strOk x = true := fun x hx => by
  rcases h x hx with rfl | rfl <;> decide +kernel

section
variable {prog : Program} {w : World} {A : Around} {E : Value → Shared → Prop} {s : Shared} {env : Env}
theorem middle_low {l : Addr} {outer : List Env} {vs : List Value} {ss : List Str} {Q : Value → Shared → Prop} (hA : Room A) (hd : A.depth < 800) (hu : A.units < 4000) (B : Base w s.heap) (hfr : A.frames = some outer) (hok : FrOk w s.heap outer)
    (hl : s.heap.IsList l vs.toArray) (hS : StrsAre vs ss) (hb : Brs ss) (h64 : vs.length < 64)
    (hQ : ∀ t h' tk, KF (fr outer) s.heap h' → Q (.str (lowW ss) t) { s with heap := h', toks := tk }) :
    wpAny (model prog w) A (call (.ref 83) [.ref 55, .ref l]) Q E s := by
  by_cases hne : ss = []
  · subst hne
    cases hS
    refine middle_none (fa := 55) rfl hA hd hu B hfr hok hl (fun A s Q E base outer a b c d e f g => median_low_none a b c d e f g) fun t h' tk k => ?_
    exact hQ t h' tk k
  · refine middle_full (fa := 55) (P := fun y => y = lowW ss) rfl hA hd hu B hl hS hb.ok h64 (fun A s Q E a b c g => median_low_full a b c hS h64 hne fun y t h' tk ss' k p1 p2 p3 => g y t h' tk ?_ k) fun y t h' tk e k => ?_
    · rw [lowW, if_neg hne]; exact low_of hb hne p1 p2 p3
    · subst e; exact hQ t h' tk k.kf
theorem middle_high {l : Addr} {outer : List Env} {vs : List Value} {ss : List Str} {Q : Value → Shared → Prop} (hA : Room A) (hd : A.depth < 800) (hu : A.units < 4000) (B : Base w s.heap) (hfr : A.frames = some outer) (hok : FrOk w s.heap outer)
    (hl : s.heap.IsList l vs.toArray) (hS : StrsAre vs ss) (hb : Brs ss) (h64 : vs.length < 64)
    (hQ : ∀ t h' tk, KF (fr outer) s.heap h' → Q (.str (highW ss) t) { s with heap := h', toks := tk }) :
    wpAny (model prog w) A (call (.ref 83) [.ref 62, .ref l]) Q E s := by
  by_cases hne : ss = []
  · subst hne
    cases hS
    refine middle_none (fa := 62) rfl hA hd hu B hfr hok hl (fun A s Q E base outer a b c d e f g => median_high_none a b c d e f g) fun t h' tk k => ?_
    exact hQ t h' tk k
  · refine middle_full (fa := 62) (P := fun y => y = highW ss) rfl hA hd hu B hl hS hb.ok h64 (fun A s Q E a b c g => median_high_full a b c hS h64 hne fun y t h' tk ss' k p1 p2 p3 => g y t h' tk ?_ k) fun y t h' tk e k => ?_
    · rw [highW, if_neg hne]; exact high_of hb p1 p2 p3
    · subst e; exact hQ t h' tk k.kf
end
end Mine
end

-- M14
section
open PySem PySem.W PySem.W.X PyProof.Rows PySem.Spec PySem.SeqAt PyProof.V
namespace Mine
open Sem (wp)


/-- a list of addresses of pairs of texts -/
inductive TupsAre (h : Heap) : List Value → List (Str × Str) → Prop
  | nil : TupsAre h [] []
  | cons {T : Addr} {a b : Tok} {p : Str × Str} {vs : List Value} {ps : List (Str × Str)} : h.IsTuple T #[.str p.1 a, .str p.2 b] → TupsAre h vs ps → TupsAre h (.ref T :: vs) (p :: ps)
theorem TupsAre.to {h h' : Heap} {vs : List Value} {ps : List (Str × Str)} (x : TupsAre h vs ps) (k : ∀ T vs, h.IsTuple T vs → h'.IsTuple T vs) : TupsAre h' vs ps := by
  induction x with
  | nil => exact .nil
  | cons a _ ih => exact .cons (k _ _ a) ih
theorem TupsAre.get {h : Heap} {vs : List Value} {ps : List (Str × Str)} (x : TupsAre h vs ps) : ∀ {i : Nat} {p : Str × Str}, ps[i]? = some p → ∃ T a b, vs[i]? = some (.ref T) ∧ h.IsTuple T #[.str p.1 a, .str p.2 b] := by
  induction x with
  | nil => intro i p e; simp at e
  | cons a _ ih =>
    intro i p e
    cases i with
    | zero => simp at e; subst e; exact ⟨_, _, _, rfl, a⟩
    | succ i => simpa using ih (by simpa using e)
theorem TupsAre.len {h : Heap} {vs : List Value} {ps : List (Str × Str)} (x : TupsAre h vs ps) : vs.length = ps.length := by
  induction x with
  | nil => rfl
  | cons a _ ih => simp [ih]

theorem ne_of_data {h : Heap} {a b : Addr} {o o' : Obj} (e : h.get? a = some o) (e' : h.get? b = some o') (hd : o.data ≠ o'.data) : a ≠ b := fun q => by
  subst q; rw [e] at e'; cases e'; exact hd rfl
theorem ne_of_cls {h : Heap} {a b : Addr} {o o' : Obj} (e : h.get? a = some o) (e' : h.get? b = some o') (hd : o.cls ≠ o'.cls) : a ≠ b := fun q => by
  subst q; rw [e] at e'; cases e'; exact hd rfl
theorem tup_ne_list {h : Heap} {T l : Addr} {vs us : Array Value} (x : h.IsTuple T vs) (y : h.IsList l us) : T ≠ l := by
  obtain ⟨o, ho, hc, _⟩ := x
  obtain ⟨o', ho', hc', _⟩ := y
  exact ne_of_cls ho ho' (by rw [hc, hc']; decide)
theorem tup_ne_ns {h : Heap} {T L : Addr} {vs : Array Value} {m : Str → Option Value} (x : h.IsTuple T vs) (y : h.Ns L m) : T ≠ L := by
  obtain ⟨o, ho, hc, n, hd⟩ := x
  obtain ⟨o', es, p, ho', hd', _⟩ := y
  exact ne_of_data ho ho' (by rw [hd, hd']; intro q; cases q)
theorem tup_ne_iter {h : Heap} {T it l : Addr} {i : Nat} {vs : Array Value} (x : h.IsTuple T vs) (y : h.IsListIter it l i) : T ≠ it := by
  obtain ⟨o, ho, hc, n, hd⟩ := x
  obtain ⟨o', ho', hc', hd'⟩ := y
  exact ne_of_data ho ho' (by rw [hd, hd']; intro q; cases q)
theorem list_ne_ns {h : Heap} {T L : Addr} {vs : Array Value} {m : Str → Option Value} (x : h.IsList T vs) (y : h.Ns L m) : T ≠ L := by
  obtain ⟨o, ho, hc, n, hd⟩ := x
  obtain ⟨o', es, p, ho', hd', _⟩ := y
  exact ne_of_data ho ho' (by rw [hd, hd']; intro q; cases q)
theorem list_ne_iter {h : Heap} {T it l : Addr} {i : Nat} {vs : Array Value} (x : h.IsList T vs) (y : h.IsListIter it l i) : T ≠ it := by
  obtain ⟨o, ho, hc, n, hd⟩ := x
  obtain ⟨o', ho', hc', hd'⟩ := y
  exact ne_of_data ho ho' (by rw [hd, hd']; intro q; cases q)
theorem iter_ne_ns {h : Heap} {L it l : Addr} {i : Nat} {m : Str → Option Value} (x : h.IsListIter it l i) (y : h.Ns L m) : it ≠ L := by
  obtain ⟨o, ho, hc, hd⟩ := x
  obtain ⟨o', es, p, ho', hd', _⟩ := y
  exact ne_of_data ho ho' (by rw [hd, hd']; intro q; cases q)
theorem IsTuple.but {h h' : Heap} {a b : Addr} {items : Array Value} (x : h.IsTuple a items) (hs : Heap.ExtBut b h h') (hab : a ≠ b) : h'.IsTuple a items := let ⟨o, ho, r⟩ := x; ⟨o, hs _ _ hab ho, r⟩

/-- the state of the loops of _law_from_left and _law_from_right -/
structure LSt (outer : List Env) (h0 : Heap) (L it lst ta sa : Addr) (vs : List Value) (ps : List (Str × Str)) (i : Nat) (tl : List Bool) (ss : List Str) (g : Bool) (m : Str → Option Value) (h : Heap) : Prop where
  kf : KF (fr outer) h0 h
  nL : h0.get? L = none
  nit : h0.get? it = none
  nta : h0.get? ta = none
  nsa : h0.get? sa = none
  ns : h.Ns L m
  mt : m "told" = some (.ref ta)
  ms : m "seen" = some (.ref sa)
  mg : m "good" = some (.bool g)
  iter : h.IsListIter it lst i
  lst_ : h.IsList lst vs.toArray
  tups : TupsAre h vs ps
  told : h.PlainList ta (tl.map Value.bool).toArray
  seen : ∃ sv : List Value, h.PlainList sa sv.toArray ∧ StrsAre sv ss
  d1 : lst ≠ ta
  d2 : lst ≠ sa
  d3 : ta ≠ sa
section
variable {outer : List Env} {h0 : Heap} {L it lst ta sa : Addr} {vs : List Value} {ps : List (Str × Str)} {i : Nat} {tl : List Bool} {ss : List Str} {g : Bool} {m m' : Str → Option Value} {h h' : Heap}
theorem KF.but {l : List Addr} {X : Addr} (k : KF l h0 h) (hX : h0.get? X = none) (hs : Heap.ExtBut X h h') : KF l h0 h' :=
  have ne : ∀ b o, h0.get? b = some o → b ≠ X := fun b o e q => by rw [q, hX] at e; cases e
  ⟨fun b o hb e => hs b o (ne b o e) (k.keep b o hb e), fun b o e hf => let ⟨sl, e'⟩ := k.slot b o e hf; ⟨sl, hs b _ (ne b o e) e'⟩⟩
theorem LSt.store (x : LSt outer h0 L it lst ta sa vs ps i tl ss g m h) (hs : Heap.ExtBut L h h') (hn : h'.Ns L m') {g' : Bool} (mt : m' "told" = some (.ref ta)) (ms : m' "seen" = some (.ref sa)) (mg : m' "good" = some (.bool g')) :
    LSt outer h0 L it lst ta sa vs ps i tl ss g' m' h' := by
  obtain ⟨sv, h1, h2⟩ := x.seen
  exact { kf := x.kf.but x.nL hs, nL := x.nL, nit := x.nit, nta := x.nta, nsa := x.nsa, ns := hn, mt := mt, ms := ms, mg := mg, iter := x.iter.extBut hs (iter_ne_ns x.iter x.ns), lst_ := x.lst_.extBut hs (list_ne_ns x.lst_ x.ns), tups := x.tups.to fun T vs ht => IsTuple.but ht hs (tup_ne_ns ht x.ns), told := x.told.at fun o e => hs _ o (list_ne_ns x.told.isList x.ns) e, seen := ⟨sv, h1.at fun o e => hs _ o (list_ne_ns h1.isList x.ns) e, h2⟩, d1 := x.d1, d2 := x.d2, d3 := x.d3 }
theorem LSt.next (x : LSt outer h0 L it lst ta sa vs ps i tl ss g m h) (hs : Heap.ExtBut it h h') {j : Nat} (hi : h'.IsListIter it lst j) : LSt outer h0 L it lst ta sa vs ps j tl ss g m h' := by
  obtain ⟨sv, h1, h2⟩ := x.seen
  exact { kf := x.kf.but x.nit hs, nL := x.nL, nit := x.nit, nta := x.nta, nsa := x.nsa, ns := x.ns.at' fun o e => hs _ o (Ne.symm (iter_ne_ns x.iter x.ns)) e, mt := x.mt, ms := x.ms, mg := x.mg, iter := hi, lst_ := x.lst_.extBut hs (list_ne_iter x.lst_ x.iter), tups := x.tups.to fun T vs ht => IsTuple.but ht hs (tup_ne_iter ht x.iter), told := x.told.at fun o e => hs _ o (list_ne_iter x.told.isList x.iter) e, seen := ⟨sv, h1.at fun o e => hs _ o (list_ne_iter h1.isList x.iter) e, h2⟩, d1 := x.d1, d2 := x.d2, d3 := x.d3 }
theorem LSt.appTold (x : LSt outer h0 L it lst ta sa vs ps i tl ss g m h) (hs : Heap.ExtBut ta h h') {b : Bool} (ht : h'.PlainList ta ((tl.map Value.bool).toArray.push (.bool b))) : LSt outer h0 L it lst ta sa vs ps i (tl ++ [b]) ss g m h' := by
  obtain ⟨sv, h1, h2⟩ := x.seen
  exact { kf := x.kf.but x.nta hs, nL := x.nL, nit := x.nit, nta := x.nta, nsa := x.nsa, ns := x.ns.at' fun o e => hs _ o (Ne.symm (list_ne_ns x.told.isList x.ns)) e, mt := x.mt, ms := x.ms, mg := x.mg, iter := x.iter.extBut hs (Ne.symm (list_ne_iter x.told.isList x.iter)), lst_ := x.lst_.extBut hs x.d1, tups := x.tups.to fun T vs hT => IsTuple.but hT hs (tup_ne_list hT x.told.isList), told := by simpa using ht, seen := ⟨sv, h1.at fun o e => hs _ o (Ne.symm x.d3) e, h2⟩, d1 := x.d1, d2 := x.d2, d3 := x.d3 }
theorem LSt.appSeen (x : LSt outer h0 L it lst ta sa vs ps i tl ss g m h) (hs : Heap.ExtBut sa h h') {sv : List Value} (h2 : StrsAre sv ss) (h1 : h.PlainList sa sv.toArray) {y : Str} {t : Tok} (ht : h'.PlainList sa (sv.toArray.push (.str y t))) :
    LSt outer h0 L it lst ta sa vs ps i tl (ss ++ [y]) g m h' :=
  { kf := x.kf.but x.nsa hs, nL := x.nL, nit := x.nit, nta := x.nta, nsa := x.nsa, ns := x.ns.at' fun o e => hs _ o (Ne.symm (list_ne_ns h1.isList x.ns)) e, mt := x.mt, ms := x.ms, mg := x.mg, iter := x.iter.extBut hs (Ne.symm (list_ne_iter h1.isList x.iter)), lst_ := x.lst_.extBut hs x.d2, tups := x.tups.to fun T vs hT => IsTuple.but hT hs (tup_ne_list hT h1.isList), told := x.told.at fun o e => hs _ o x.d3 e, seen := ⟨sv ++ [.str y t], by simpa using ht, by
      clear ht h1 hs x
      induction h2 with
      | nil => exact .cons _ _ .nil
      | cons a b _ ih => exact .cons _ _ ih⟩, d1 := x.d1, d2 := x.d2, d3 := x.d3 }
theorem LSt.mid {w : World} {env : Env} (x : LSt outer h0 L it lst ta sa vs ps i tl ss g m h) (hok : FrOk w h0 outer) (hf : env.frame = some L) (k : KF (fr (env :: outer)) h h') : LSt outer h0 L it lst ta sa vs ps i tl ss g m h' := by
  have e : fr (env :: outer) = L :: fr outer := by unfold fr; rw [List.filterMap_cons, hf]
  rw [e] at k
  obtain ⟨sv, h1, h2⟩ := x.seen
  have out : ∀ X, h0.get? X = none → X ≠ L → X ∉ L :: fr outer := fun X hX hne hm => by
    rcases List.mem_cons.mp hm with q | q
    · exact hne q
    · obtain ⟨_, o, e, _⟩ := hok.mem q
      rw [hX] at e; cases e
  exact { kf := ⟨fun b o hb e => k.keep b o (fun hm => by
            rcases List.mem_cons.mp hm with q | q
            · rw [q, x.nL] at e; cases e
            · exact hb q) (x.kf.keep b o hb e), x.kf.slot.trans k.slot⟩,
          nL := x.nL, nit := x.nit, nta := x.nta, nsa := x.nsa, ns := k.slot.ns x.ns, mt := x.mt, ms := x.ms, mg := x.mg, iter := x.iter.at fun o e => k.keep _ o (out _ x.nit (iter_ne_ns x.iter x.ns)) e,
          lst_ := slot_list k.slot x.lst_, tups := x.tups.to fun T vs ht => slot_tuple k.slot ht, told := x.told.at fun o e => k.keep _ o (out _ x.nta (list_ne_ns x.told.isList x.ns)) e,
          seen := ⟨sv, h1.at fun o e => k.keep _ o (out _ x.nsa (list_ne_ns h1.isList x.ns)) e, h2⟩, d1 := x.d1, d2 := x.d2, d3 := x.d3 }
end
end Mine
end

-- M15
section
open PySem PySem.W PySem.W.X PyProof.Rows PySem.Spec PySem.SeqAt PyProof.V
namespace Mine
open Sem (wp)


def emp : Str := ⟨#[]⟩
def seenOf (ss : List Str) (p : Str × Str) : List Str := if p.2 = emp then ss else ss ++ [p.2]
def leftGo : List Str → Bool → List (Str × Str) → List Bool
  | _, _, [] => []
  | ss, g, p :: r =>
    ((if p.2 = emp then g else (g && decide (lowW (seenOf ss p) = op))) && decide (highW (seenOf ss p) = if seenOf ss p = [] then noMsg else cl))
      :: leftGo (seenOf ss p) (if p.2 = emp then g else (g && decide (lowW (seenOf ss p) = op))) r
def RowOk (ps : List (Str × Str)) : Prop := ∀ p ∈ ps, p.2 = emp ∨ p.2 = op ∨ p.2 = cl
theorem TupsAre.drop {h : Heap} {vs : List Value} {ps : List (Str × Str)} (x : TupsAre h vs ps) : ∀ k, TupsAre h (vs.drop k) (ps.drop k) := by
  induction x with
  | nil => intro k; simpa using TupsAre.nil
  | cons a b ih =>
    intro k
    cases k with
    | zero => exact .cons a b
    | succ k => simpa using ih k
theorem leftGo_length : ∀ (ps : List (Str × Str)) (ss : List Str) (g : Bool), (leftGo ss g ps).length = ps.length
  | [], _, _ => rfl
  | p :: r, ss, g => by rw [leftGo, List.length_cons, List.length_cons, leftGo_length r]
theorem br_ne {p : Str × Str} (h : p.2 = op ∨ p.2 = cl) : p.2 ≠ emp := by
  rcases h with e | e <;> rw [e] <;> decide

theorem IsTuple.keep {h h' : Heap} {a : Addr} {items : Array Value} (x : h.IsTuple a items) (hs : ∀ o, h.get? a = some o → h'.get? a = some o) : h'.IsTuple a items := let ⟨o, ho, r⟩ := x; ⟨o, hs _ ho, r⟩
theorem forLoop_at {M : Model} {A : Around} {R : Result → Shared → Prop} {t : Expr} {b o : List Stmt} {env : Env} {s : Shared} {it it' : Addr} (e : it = it') (h : codeAny M A (.forLoop t (.ref it') b o env) R s) : codeAny M A (.forLoop t (.ref it) b o env) R s := e ▸ h
theorem push3_iter (h : Heap) (o o' : Obj) {l : Addr} : (((h.push o).push o').push { cls := .type "list_iterator", data := .fields #[.ref l, .int 0 0] }).IsListIter (h.objs.size + 2) l 0 := by
  have : (((h.push o).push o').push { cls := .type "list_iterator", data := .fields #[.ref l, .int 0 0] }).get? ((h.push o).push o').objs.size = some { cls := .type "list_iterator", data := .fields #[.ref l, .int 0 0] } := Heap.get?_push_size _ rfl
  rw [Heap.size_push, Heap.size_push] at this
  exact ⟨_, this, rfl, rfl⟩
theorem push2_list (h : Heap) (o : Obj) {xs ys : Array Value} (e : xs = ys) : ((h.push o).push { cls := .type "list", data := .seq xs }).IsList (h.objs.size + 1) ys := by
  subst e
  have : ((h.push o).push { cls := .type "list", data := .seq xs }).get? (h.push o).objs.size = some { cls := .type "list", data := .seq xs } := Heap.get?_push_size _ rfl
  rw [Heap.size_push] at this
  exact ⟨_, this, rfl, 0, rfl⟩
theorem ne_of_lt {h : Heap} {l : Addr} {vs : Array Value} (x : h.IsList l vs) : l ≠ h.objs.size := by
  obtain ⟨o, e, _⟩ := x
  exact Nat.ne_of_lt (Heap.lt_size e)
section
variable {prog : Program} {w : World} {A : Around} {E : Value → Shared → Prop} {s : Shared} {env : Env}
theorem from_left {r : Addr} {k : Nat} {t : Tok} {outer : List Env} {vs : List Value} {ps : List (Str × Str)} {Q : Value → Shared → Prop} (hA : Room A) (hd : A.depth < 790) (hu : A.units < 3900) (B : Base w s.heap) (hfr : A.frames = some outer) (hok : FrOk w s.heap outer)
    (hr : s.heap.IsList r vs.toArray) (hT : TupsAre s.heap vs ps) (hps : RowOk ps) (h64 : ps.length < 64)
    (hQ : ∀ ta h' tk, KF (fr outer) s.heap h' → s.heap.get? ta = none → h'.PlainList ta ((leftGo [] true (ps.drop k)).map Value.bool).toArray → Q (.ref ta) { s with heap := h', toks := tk }) :
    wpAny (model prog w) A (call (.ref 90) [.ref r, .int k t]) Q E s := by
  have hsz : vs.toArray.size ≤ sizeLine := Nat.le_trans (by simpa using (hT.len ▸ Nat.le_of_lt h64 : vs.length ≤ 64)) (show 64 ≤ sizeLine by decide)
  refine call_fn hA B rfl rfl rfl rfl (by decide) (locs rfl) fun h₀ hn hk B₀ => ?_
  refine wpAny_execs_cons (wpAny_Assign_Name (List_ (spliced_none (wpAny_newList (st_loc (hn.push _) fun h₁ hn₁ hs₁ => ?_)))))
  refine wpAny_execs_cons (wpAny_Assign_Name (List_ (spliced_none (wpAny_newList (st_loc (hn₁.push _) fun h₂ hn₂ hs₂ => ?_)))))
  refine wpAny_execs_cons (wpAny_Assign_Name (wpAny_Constant_bool (st_loc hn₂ fun h₃ hn₃ hs₃ => ?_)))
  refine wpAny_execs_cons (wpAny_For (wpAny_Subscript_list_slice (nm_loc hn₃ rfl (evalPart_some_step (nm_loc hn₃ rfl (evalPart_none_step ⟨r, vs.toArray, some (k : Int), none, rfl, ?_, hsz, .int _ _, .none, ?_⟩))))))
  · exact ((hr.at fun o e => hk _ o e).push _).extBut hs₁.extBut (ne_of_lt hr) |>.push _ |>.extBut hs₂.extBut (ne_of_lt hr) |>.extBut hs₃.extBut (ne_of_lt hr)
  have hpick : slicePick vs.toArray (some (k : Int)) none none = (vs.drop k).toArray := slicePick_from' _ _
  refine wpAny_pyIter_list (items := (vs.drop k).toArray) ?xl ?_
  case xl => exact push2_list _ _ hpick
  have hL0 : h₀.objs.size ≠ s.heap.objs.size := Nat.ne_of_gt hn.lt
  have hL1 : h₁.objs.size ≠ s.heap.objs.size := Nat.ne_of_gt hn₁.lt
  have low : ∀ b o, s.heap.get? b = some o → b ≠ s.heap.objs.size := fun b o e => Nat.ne_of_lt (Heap.lt_size e)
  have k₁ : Kp s.heap h₁ := fun b o e => hs₁.extBut b o (low b o e) (Heap.get?_push_of_some _ (hk b o e))
  have k₂ : Kp s.heap h₂ := fun b o e => hs₂.extBut b o (low b o e) (Heap.get?_push_of_some _ (k₁ b o e))
  have k₃ : Kp s.heap h₃ := fun b o e => hs₃.extBut b o (low b o e) (k₂ b o e)
  have pt₁ : h₁.PlainList h₀.objs.size #[] := ⟨0, hs₁.extBut _ _ hL0 (Heap.get?_push_size _ rfl)⟩
  have ps₂ : h₂.PlainList h₁.objs.size #[] := ⟨0, hs₂.extBut _ _ hL1 (Heap.get?_push_size _ rfl)⟩
  have pt₃ : h₃.PlainList h₀.objs.size #[] := pt₁.at fun o e => hs₃.extBut _ o hL0 (hs₂.extBut _ o hL0 (Heap.get?_push_of_some _ e))
  have ps₃ : h₃.PlainList h₁.objs.size #[] := ps₂.at fun o e => hs₃.extBut _ o hL1 e
  have hts : h₀.objs.size < h₁.objs.size := let ⟨_, e⟩ := pt₁; Heap.lt_size e
  have h13 : h₁.objs.size < h₃.objs.size := let ⟨_, e⟩ := ps₃; Heap.lt_size e
  have new : ∀ a, s.heap.objs.size ≤ a → s.heap.get? a = none := fun a ha => by
    cases q : s.heap.get? a with
    | none => rfl
    | some o => exact absurd (Heap.lt_size q) (Nat.not_lt.mpr ha)
  have hLs : s.heap.objs.size < h₀.objs.size := hn.lt
  have hus : (vs.drop k).length = (ps.drop k).length := (hT.drop k).len
  have hqs : RowOk (ps.drop k) := fun p hp => hps p (List.mem_of_mem_drop hp)
  have hq64 : (ps.drop k).length < 64 := by rw [List.length_drop]; omega
  refine forLoop_at (it' := h₃.objs.size + 2) (by rw [Heap.size_push, Heap.size_push]) ?_
  have kp3 : ∀ {o1 o2 o3 : Obj} b o, h₃.get? b = some o → (((h₃.push o1).push o2).push o3).get? b = some o := fun b o e => Heap.get?_push_of_some _ (Heap.get?_push_of_some _ (Heap.get?_push_of_some _ e))
  refine codeAny_forLoop_any (fun n s' => ∃ i tl ss g m h tk, n = (ps.drop k).length - i + 1 ∧ s' = { s with heap := h, toks := tk } ∧
    LSt outer s.heap s.heap.objs.size (h₃.objs.size + 2) (h₃.objs.size + 1) h₀.objs.size h₁.objs.size (vs.drop k) (ps.drop k) i tl ss g m h ∧ Brs ss ∧ ss.length ≤ i ∧ i ≤ (ps.drop k).length ∧ tl ++ leftGo ss g ((ps.drop k).drop i) = leftGo [] true (ps.drop k)) ?_ _
    ⟨0, [], [], true, _, _, _, rfl, rfl, { kf := Kp.kf fun b o e => kp3 b o (k₃ b o e), nL := new _ (Nat.le_refl _), nit := new _ (by omega), nta := new _ (by omega), nsa := new _ (by omega), ns := hn₃.keeps kp3, mt := rfl, ms := rfl, mg := rfl, iter := push3_iter _ _ _, lst_ := (push2_list _ _ hpick).push _, tups := (hT.drop k).to fun T vs ht => IsTuple.keep ht fun o e => kp3 _ o (k₃ _ o e), told := pt₃.at fun o e => kp3 _ o e, seen := ⟨[], ps₃.at fun o e => kp3 _ o e, .nil⟩, d1 := Nat.ne_of_gt (show h₀.objs.size < h₃.objs.size + 1 by omega), d2 := Nat.ne_of_gt (show h₁.objs.size < h₃.objs.size + 1 by omega), d3 := Nat.ne_of_lt hts }, fun x hx => absurd hx List.not_mem_nil, Nat.le_refl _, Nat.zero_le _, rfl⟩
  rintro n s' ⟨i, tl, ss, g, m, h, tk, rfl, rfl, X, hb, hlen, hi, heq⟩
  have B' : ∀ {i tl ss g m h}, LSt outer s.heap s.heap.objs.size (h₃.objs.size + 2) (h₃.objs.size + 1) h₀.objs.size h₁.objs.size (vs.drop k) (ps.drop k) i tl ss g m h → Base w h := fun X => B.kf hok X.kf
  cases hq : (ps.drop k).drop i with
  | nil =>
    have hge : (ps.drop k).length ≤ i := List.drop_eq_nil_iff.mp hq
    refine wpAny_pyNext_list_end hA.hh X.iter X.lst_ (by rw [List.getElem?_toArray]; exact List.getElem?_eq_none (by rw [hus]; exact hge)) fun h' he => wpAny_execs_nil ?_
    refine wpAny_execs_cons (wpAny_Return_some (nm_loc (X.ns.at' fun o e => he _ o (Ne.symm (iter_ne_ns X.iter X.ns)) e) X.mt ?_))
    refine hQ h₀.objs.size h' _ (X.kf.but X.nit he) X.nta ?_
    rw [hq] at heq
    have e2 : tl = leftGo [] true (ps.drop k) := by simpa [leftGo] using heq
    rw [← e2]
    exact X.told.at fun o e => he _ o (list_ne_iter X.told.isList X.iter) e
  | cons p rest =>
    have hlt : i < (ps.drop k).length := by
      rcases Nat.lt_or_ge i (ps.drop k).length with h | h
      · exact h
      · rw [List.drop_eq_nil_iff.mpr h] at hq; cases hq
    have hp : (ps.drop k)[i]? = some p := by
      have := List.head?_drop (l := ps.drop k) (i := i)
      rw [hq] at this; simpa using this.symm
    have hrest : (ps.drop k).drop (i + 1) = rest := by rw [← List.tail_drop, hq]; rfl
    have hpok := hqs p (List.mem_of_getElem? hp)
    refine Exists.elim (X.tups.get hp) fun T y1 => Exists.elim y1 fun ta y2 => Exists.elim y2 fun tb y3 => ?_
    refine wpAny_pyNext_list_item X.iter X.lst_ (by simpa using y3.1) fun h₄ it₄ hs₄ => ?_
    have X₄ := X.next hs₄.extBut it₄
    refine wpAny_letOwnedTupleGo_listiter it₄ ?_
    refine assign_pair hA.hh (IsTuple.but y3.2 hs₄.extBut (tup_ne_iter y3.2 X.iter)) X₄.ns fun h₅ tk₅ hn₅ hk₅ => ?_
    have X₅ := X₄.store hk₅ hn₅ (g' := g) (by rw [if_neg (by decide), if_neg (by decide)]; exact X.mt) (by rw [if_neg (by decide), if_neg (by decide)]; exact X.ms) (by rw [if_neg (by decide), if_neg (by decide)]; exact X.mg)
    refine wpAny_execs_cons (wpAny_mono (Q := fun f s' => f = Flow.next ∧ ∃ m h tk, s' = { s with heap := h, toks := tk } ∧ LSt outer s.heap s.heap.objs.size (h₃.objs.size + 2) (h₃.objs.size + 1) h₀.objs.size h₁.objs.size (vs.drop k) (ps.drop k) (i + 1) tl (seenOf ss p)
      (if p.2 = emp then g else (g && decide (lowW (seenOf ss p) = op))) m h) ?_ ?_ fun _ _ x => x)
    · refine wpAny_If (wpAny_isTrue_value (nm_loc hn₅ (if_pos rfl) (P.truthy_str ?_ ?_)))
      · rcases hpok with e | e | e <;> rw [e] <;> decide
      rcases hpok with e | e
      · refine Eq.mpr (if_neg (fun q => ?_)) (wpAny_execs_nil ?_)
        · rw [e] at q; exact absurd q (by decide)
        · have e1 : seenOf ss p = ss := by rw [seenOf, if_pos e]
          rw [e1, if_pos e]
          exact ⟨rfl, _, h₅, _, rfl, X₅⟩
      · have hne := br_ne e
        refine Eq.mpr (if_pos ?_) ?_
        · rcases e with e | e <;> rw [e] <;> decide
        refine Exists.elim X₅.seen fun sv hsv => ?_
        refine wpAny_execs_cons (wpAny_Expr_any (MethodCall_ (nm_loc hn₅ X₅.ms (gm_append hsv.1 (callWith_method1 (spliced_more (nm_loc hn₅ (if_pos rfl) (spliced_none (wpAny_list_append_plain hsv.1 (fun h₆ hpl₆ hs₆ => ?_) ?_)))))))))
        · have X₆ := X₅.appSeen hs₆.extBut hsv.2 hsv.1 hpl₆
          have hse : seenOf ss p = ss ++ [p.2] := by rw [seenOf, if_neg hne]
          have hbr : Brs (ss ++ [p.2]) := fun x hx => by
            rcases List.mem_append.mp hx with q | q
            · exact hb x q
            · rw [List.mem_singleton.mp q]; exact e
          rw [hse, if_neg hne]
          refine wpAny_execs_cons (wpAny_Assign_Name (BoolOp_and (nm_loc X₆.ns X₆.mg (wpAny_truthy_bool ?_))))
          cases hg : g with
          | false =>
            refine Eq.mpr (if_neg Bool.false_ne_true) (st_loc X₆.ns fun h₇ hn₇ hs₇ => wpAny_execs_nil ?_)
            exact ⟨rfl, _, h₇, _, rfl, X₆.store hs₇.extBut hn₇ (by rw [if_neg (by decide)]; exact X₆.mt) (by rw [if_neg (by decide)]; exact X₆.ms) (if_pos rfl)⟩
          | true =>
            refine Eq.mpr (if_pos rfl) (BoolOp_one (wpAny_Compare1 ?_))
            refine Call_ (nm_glob (B' X₆) rfl (callWith_def rfl (spliced_more (nm_glob (B' X₆) rfl (spliced_more (nm_loc X₆.ns X₆.ms (spliced_none ⟨(B' X₆).k 83 _ rfl, ?_⟩)))))))
            refine Exists.elim X₆.seen fun sv₆ hsv₆ => ?_
            refine middle_low (outer := _ :: outer) (hA.deeper (by omega) (by omega)) (by show A.depth + 1 < 800; omega) (by show A.units + 3 < 4000; omega) (B' X₆) (by rw [Around.deeper, hfr]; rfl) ?_ hsv₆.1.isList hsv₆.2 hbr ?_ fun t₇ h₇ tk₇ k₇ => ?_
            · exact (hok.to X₆.kf.slot).cons (show ScopeKind.function ≠ ScopeKind.module by decide) rfl X₆.ns B.fresh
            · rw [strsAre_len hsv₆.2, List.length_append, List.length_singleton]; omega
            have X₇ := X₆.mid hok rfl k₇
            refine wpAny_Constant_str (eq_str (st_loc X₇.ns fun h₈ hn₈ hs₈ => wpAny_execs_nil ?_))
            exact ⟨rfl, _, h₈, _, rfl, X₇.store hs₈.extBut hn₈ (by rw [if_neg (by decide)]; exact X₆.mt) (by rw [if_neg (by decide)]; exact X₆.ms) (by rw [if_pos rfl, beq_lit op_lit, Bool.true_and])⟩
        · have := strsAre_len hsv.2
          exact Nat.le_trans (by rw [List.size_toArray, this]; omega : sv.toArray.size ≤ 64) (show 64 ≤ sizeLine by decide)
    · rintro f s'' ⟨rfl, m₆, h₆, tk₆, rfl, X₆⟩
      obtain ⟨g', hG⟩ : ∃ g', (if p.2 = emp then g else (g && decide (lowW (seenOf ss p) = op))) = g' := ⟨_, rfl⟩
      rw [hG] at X₆
      have hb₆ : Brs (seenOf ss p) := by
        unfold seenOf
        split
        · exact hb
        · rename_i hne
          intro x hx
          rcases List.mem_append.mp hx with q | q
          · exact hb x q
          · rw [List.mem_singleton.mp q]; exact hpok.resolve_left hne
      have hl₆ : (seenOf ss p).length ≤ i + 1 := by
        unfold seenOf
        split
        · omega
        · rw [List.length_append, List.length_singleton]; omega
      have heq₆ : ∀ b, (g' && decide (highW (seenOf ss p) = if seenOf ss p = [] then noMsg else cl)) = b → (tl ++ [b]) ++ leftGo (seenOf ss p) g' ((ps.drop k).drop (i + 1)) = leftGo [] true (ps.drop k) := fun b hbb => by
        rw [← heq, hq, hrest, leftGo, hG, hbb, List.append_assoc]; rfl
      have hmore : (ps.drop k).length - (i + 1) + 1 < (ps.drop k).length - i + 1 := by omega
      have hszT : ∀ {h}, LSt outer s.heap s.heap.objs.size (h₃.objs.size + 2) (h₃.objs.size + 1) h₀.objs.size h₁.objs.size (vs.drop k) (ps.drop k) (i + 1) tl (seenOf ss p) g' m₆ h → (tl.map Value.bool).toArray.size ≤ sizeLine := fun _ => by
        have := congrArg List.length heq
        rw [List.length_append, leftGo_length, leftGo_length] at this
        exact Nat.le_trans (by rw [List.size_toArray, List.length_map]; omega : (tl.map Value.bool).toArray.size ≤ 64) (show 64 ≤ sizeLine by decide)
      refine wpAny_execs_cons (wpAny_Expr_any (MethodCall_ (nm_loc X₆.ns X₆.mt (gm_append X₆.told (callWith_method1 (spliced_more (BoolOp_and (nm_loc X₆.ns X₆.mg (wpAny_truthy_bool ?_)))))))))
      cases hg : g' with
      | false =>
        rw [hg] at X₆ heq₆ hszT
        refine Eq.mpr (if_neg Bool.false_ne_true) (spliced_none (wpAny_list_append_plain X₆.told (fun h₇ hpl₇ hs₇ => wpAny_execs_nil ?_) (hszT X₆)))
        exact ⟨_, hmore, i + 1, tl ++ [false], seenOf ss p, false, _, h₇, _, rfl, rfl, X₆.appTold hs₇.extBut hpl₇, hb₆, hl₆, hlt, heq₆ false rfl⟩
      | true =>
        rw [hg] at X₆ heq₆ hszT
        refine Eq.mpr (if_pos rfl) (BoolOp_one (wpAny_Compare1 ?_))
        refine Call_ (nm_glob (B' X₆) rfl (callWith_def rfl (spliced_more (nm_glob (B' X₆) rfl (spliced_more (nm_loc X₆.ns X₆.ms (spliced_none ⟨(B' X₆).k 83 _ rfl, ?_⟩)))))))
        refine Exists.elim X₆.seen fun sv₆ hsv₆ => ?_
        have h64v : sv₆.length < 64 := by rw [strsAre_len hsv₆.2]; omega
        refine middle_high (outer := _ :: outer) (hA.deeper (by omega) (by omega)) (by show A.depth + 1 < 800; omega) (by show A.units + 3 < 4000; omega) (B' X₆) (by rw [Around.deeper, hfr]; rfl) ?_ hsv₆.1.isList hsv₆.2 hb₆ h64v fun t₇ h₇ tk₇ k₇ => ?_
        · exact (hok.to X₆.kf.slot).cons (show ScopeKind.function ≠ ScopeKind.module by decide) rfl X₆.ns B.fresh
        have X₇ := X₆.mid hok rfl k₇
        refine Exists.elim X₇.seen fun sv₇ hsv₇ => ?_
        have hlv := strsAre_len hsv₇.2
        refine IfExp_ (wpAny_isTrue_value (nm_loc X₇.ns X₇.ms (wpAny_truthy_list hsv₇.1.isList ?_ ?_)))
        · rw [List.size_toArray, hlv]; omega
        by_cases hse : seenOf ss p = []
        · have hnil : sv₇ = [] := List.length_eq_zero_iff.mp (by rw [hlv, hse]; rfl)
          refine Eq.mpr (if_neg (fun q => ?_)) (wpAny_Constant_str (eq_str (spliced_none (wpAny_list_append_plain X₇.told (fun h₈ hpl₈ hs₈ => wpAny_execs_nil ?_) (hszT X₇)))))
          · rw [hnil] at q; exact absurd q (by decide)
          · exact ⟨_, hmore, i + 1, tl ++ [_], seenOf ss p, true, _, h₈, _, rfl, rfl, X₇.appTold hs₈.extBut hpl₈, hb₆, hl₆, hlt, heq₆ _ (by rw [if_pos hse, Bool.true_and]; exact (beq_lit rfl).symm)⟩
        · have hnn : sv₇ ≠ [] := fun q => hse (List.length_eq_zero_iff.mp (by rw [← hlv, q]; rfl))
          refine Eq.mpr (if_pos ?_) (wpAny_Constant_str (eq_str (spliced_none (wpAny_list_append_plain X₇.told (fun h₈ hpl₈ hs₈ => wpAny_execs_nil ?_) (hszT X₇)))))
          · cases sv₇ with
            | nil => exact absurd rfl hnn
            | cons a b => rfl
          · exact ⟨_, hmore, i + 1, tl ++ [_], seenOf ss p, true, _, h₈, _, rfl, rfl, X₇.appTold hs₈.extBut hpl₈, hb₆, hl₆, hlt, heq₆ _ (by rw [if_neg hse, Bool.true_and]; exact (beq_lit cl_lit).symm)⟩
end
end Mine
end

-- M16
section
open PySem PySem.W PySem.W.X PyProof.Rows PySem.Spec PySem.SeqAt PyProof.V
namespace Mine
open Sem (wp)


def rightGo : List Str → Bool → List (Str × Str) → List Bool
  | _, _, [] => []
  | ss, g, p :: r =>
    ((if p.2 = emp then g else (g && decide (highW (seenOf ss p) = cl))) && decide (lowW (seenOf ss p) = if seenOf ss p = [] then noMsg else op))
      :: rightGo (seenOf ss p) (if p.2 = emp then g else (g && decide (highW (seenOf ss p) = cl))) r
theorem rightGo_length : ∀ (ps : List (Str × Str)) (ss : List Str) (g : Bool), (rightGo ss g ps).length = ps.length
  | [], _, _ => rfl
  | p :: r, ss, g => by rw [rightGo, List.length_cons, List.length_cons, rightGo_length r]
theorem TupsAre.append {h : Heap} {vs us : List Value} {ps qs : List (Str × Str)} (x : TupsAre h vs ps) (y : TupsAre h us qs) : TupsAre h (vs ++ us) (ps ++ qs) := by
  induction x with
  | nil => exact y
  | cons a b ih => exact .cons a ih
theorem TupsAre.rev {h : Heap} {vs : List Value} {ps : List (Str × Str)} (x : TupsAre h vs ps) : TupsAre h vs.reverse ps.reverse := by
  induction x with
  | nil => exact .nil
  | cons a b ih => rw [List.reverse_cons, List.reverse_cons]; exact ih.append (.cons a .nil)
theorem TupsAre.take {h : Heap} {vs : List Value} {ps : List (Str × Str)} (x : TupsAre h vs ps) : ∀ k, TupsAre h (vs.take k) (ps.take k) := by
  induction x with
  | nil => intro k; simpa using TupsAre.nil
  | cons a b ih =>
    intro k
    cases k with
    | zero => exact .nil
    | succ k => exact .cons a (ih k)
end Mine
end

-- M17
section
open PySem PySem.W PySem.W.X PyProof.Rows PySem.Spec PySem.SeqAt PyProof.V
namespace Mine
open Sem (wp)


section
variable {prog : Program} {w : World} {A : Around} {E : Value → Shared → Prop} {s : Shared} {env : Env}
theorem slice_rev {value slice : Expr} {l : Addr} {items : Array Value} {vk : Value} {ops : List Value} {Q : Value → Shared → Prop} (hl : s.heap.IsList l items) (pk : IsPart vk (some (-1)))
    (h : Q (.ref (s.heap.objs.size + 1)) { s with heap := (s.heap.push { cls := .type "slice", data := .fields #[.none, .none, vk] }).push { cls := .type "list", data := .seq (slicePick items none none (some (-1))) } })
    (hsz : items.size ≤ sizeLine)
    (hs : subscripted slice false (.ref l) (.ref s.heap.objs.size) = operate ops (getItem (.ref l) (.ref s.heap.objs.size)) := by with_unfolding_all rfl) :
    wpAny (model prog w) A (subscriptTail value slice (.ref l) (.ref s.heap.objs.size)) Q E { s with heap := s.heap.push { cls := .type "slice", data := .fields #[.none, .none, vk] } } := by
  have hT := Heap.IsList.typeIs (s := { s with heap := s.heap.push { cls := .type "slice", data := .fields #[.none, .none, vk] } }) (hl.push _)
  unfold subscriptTail
  refine wpAny_bind ?_
  rw [getitemInPython_of_ne hT.not_modules]
  refine wpAny_bind (wpAny_specialOf hT list_getitem_lookup ?_)
  have fin : wpAny (model prog w) A (subscripted slice false (.ref l) (.ref s.heap.objs.size)) (fun r s₃ => wpAny (model prog w) A (letTemporaryGo value (.ref l) r >>= fun _ => pure r) Q E s₃) E { s with heap := s.heap.push { cls := .type "slice", data := .fields #[.none, .none, vk] } } := by
    rw [hs]
    refine wpAny_operating (wpAny_getItem_list_slice (hl.push _) (Heap.IsSliceOf.new ..) .none .none pk (by decide) (wpAny_bind (wpAny_letTemporaryGo (wpAny_pure ?_))) hsz)
    show Q (.ref (s.heap.push _).objs.size) _
    rw [Heap.size_push]
    exact h
  first
    | exact wpAny_pure (wpAny_bind fin)
    | exact wpAny_bind (wpAny_pure (wpAny_bind fin))
    | exact wpAny_bind fin
end
end Mine
end

-- M18
section
open PySem PySem.W PySem.W.X PyProof.Rows PySem.Spec PySem.SeqAt PyProof.V
namespace Mine
open Sem (wp)


theorem push4_list (h : Heap) (a b c : Obj) {xs ys : Array Value} (e : xs = ys) : ((((h.push a).push b).push c).push { cls := .type "list", data := .seq xs }).IsList (h.objs.size + 3) ys := by
  have := push2_list ((h.push a).push b) c e
  rw [Heap.size_push, Heap.size_push] at this
  exact this
theorem push5_iter (h : Heap) (a b c d : Obj) : (((((h.push a).push b).push c).push d).push { cls := .type "list_iterator", data := .fields #[.ref (((h.push a).push b).objs.size + 1), .int 0 0] }).IsListIter (h.objs.size + 4) (h.objs.size + 3) 0 := by
  have := push3_iter ((h.push a).push b) c d (l := ((h.push a).push b).objs.size + 1)
  rw [Heap.size_push, Heap.size_push] at this ⊢
  exact this
section
variable {prog : Program} {w : World} {A : Around} {E : Value → Shared → Prop} {s : Shared} {env : Env}
theorem from_right {r : Addr} {k : Nat} {t : Tok} {outer : List Env} {vs : List Value} {ps : List (Str × Str)} {Q : Value → Shared → Prop} (hA : Room A) (hd : A.depth < 790) (hu : A.units < 3900) (B : Base w s.heap) (hfr : A.frames = some outer) (hok : FrOk w s.heap outer)
    (hr : s.heap.IsList r vs.toArray) (hT : TupsAre s.heap vs ps) (hps : RowOk ps) (h64 : ps.length < 64)
    (hQ : ∀ ta h' tk, KF (fr outer) s.heap h' → s.heap.get? ta = none → h'.PlainList ta ((rightGo [] true ((ps.take k).reverse)).map Value.bool).toArray → Q (.ref ta) { s with heap := h', toks := tk }) :
    wpAny (model prog w) A (call (.ref 97) [.ref r, .int k t]) Q E s := by
  have hsz : vs.toArray.size ≤ sizeLine := Nat.le_trans (by simpa using (hT.len ▸ Nat.le_of_lt h64 : vs.length ≤ 64)) (show 64 ≤ sizeLine by decide)
  refine call_fn hA B rfl rfl rfl rfl (by decide) (locs rfl) fun h₀ hn hk B₀ => ?_
  refine wpAny_execs_cons (wpAny_Assign_Name (List_ (spliced_none (wpAny_newList (st_loc (hn.push _) fun h₁ hn₁ hs₁ => ?_)))))
  refine wpAny_execs_cons (wpAny_Assign_Name (List_ (spliced_none (wpAny_newList (st_loc (hn₁.push _) fun h₂ hn₂ hs₂ => ?_)))))
  refine wpAny_execs_cons (wpAny_Assign_Name (wpAny_Constant_bool (st_loc hn₂ fun h₃ hn₃ hs₃ => ?_)))
  have hr₃ : h₃.IsList r vs.toArray := ((hr.at fun o e => hk _ o e).push _).extBut hs₁.extBut (ne_of_lt hr) |>.push _ |>.extBut hs₂.extBut (ne_of_lt hr) |>.extBut hs₃.extBut (ne_of_lt hr)
  have hpick1 : slicePick vs.toArray none (some (k : Int)) none = (vs.take k).toArray := slicePick_upto' _ _
  have hpick : slicePick (vs.take k).toArray none none (some (-1)) = (vs.take k).reverse.toArray := krv_pick _
  have hsz1 : (vs.take k).toArray.size ≤ sizeLine := Nat.le_trans (by simp; omega) hsz
  refine wpAny_execs_cons (wpAny_For (Subscript_ (wpAny_Subscript_list_slice (nm_loc hn₃ rfl (evalPart_none_step (evalPart_some_step (nm_loc hn₃ rfl ⟨r, vs.toArray, none, some (k : Int), rfl, hr₃, hsz, .none, .int _ _, ?_⟩)))))))
  refine wpAny_Slice (evalPart_none_step (evalPart_none_step (evalPart_some_step ?_)))
  refine wpAny_UnaryOp (wpAny_Constant_int (PyProof.Rows.neg_int ?_))
  refine slice_rev (items := (vs.take k).toArray) (push2_list _ _ hpick1) (.int _ _) ?_ hsz1
  refine wpAny_pyIter_list (items := (vs.take k).reverse.toArray) (push2_list _ _ hpick) ?_
  have hL0 : h₀.objs.size ≠ s.heap.objs.size := Nat.ne_of_gt hn.lt
  have hL1 : h₁.objs.size ≠ s.heap.objs.size := Nat.ne_of_gt hn₁.lt
  have low : ∀ b o, s.heap.get? b = some o → b ≠ s.heap.objs.size := fun b o e => Nat.ne_of_lt (Heap.lt_size e)
  have k₁ : Kp s.heap h₁ := fun b o e => hs₁.extBut b o (low b o e) (Heap.get?_push_of_some _ (hk b o e))
  have k₂ : Kp s.heap h₂ := fun b o e => hs₂.extBut b o (low b o e) (Heap.get?_push_of_some _ (k₁ b o e))
  have k₃ : Kp s.heap h₃ := fun b o e => hs₃.extBut b o (low b o e) (k₂ b o e)
  have pt₁ : h₁.PlainList h₀.objs.size #[] := ⟨0, hs₁.extBut _ _ hL0 (Heap.get?_push_size _ rfl)⟩
  have ps₂ : h₂.PlainList h₁.objs.size #[] := ⟨0, hs₂.extBut _ _ hL1 (Heap.get?_push_size _ rfl)⟩
  have pt₃ : h₃.PlainList h₀.objs.size #[] := pt₁.at fun o e => hs₃.extBut _ o hL0 (hs₂.extBut _ o hL0 (Heap.get?_push_of_some _ e))
  have ps₃ : h₃.PlainList h₁.objs.size #[] := ps₂.at fun o e => hs₃.extBut _ o hL1 e
  have hts : h₀.objs.size < h₁.objs.size := let ⟨_, e⟩ := pt₁; Heap.lt_size e
  have h13 : h₁.objs.size < h₃.objs.size := let ⟨_, e⟩ := ps₃; Heap.lt_size e
  have new : ∀ a, s.heap.objs.size ≤ a → s.heap.get? a = none := fun a ha => by
    cases q : s.heap.get? a with
    | none => rfl
    | some o => exact absurd (Heap.lt_size q) (Nat.not_lt.mpr ha)
  have hLs : s.heap.objs.size < h₀.objs.size := hn.lt
  have hus : ((vs.take k).reverse).length = ((ps.take k).reverse).length := ((hT.take k).rev).len
  have hqs : RowOk ((ps.take k).reverse) := fun p hp => hps p (List.mem_of_mem_take (List.mem_reverse.mp hp))
  have hq64 : ((ps.take k).reverse).length < 64 := by rw [List.length_reverse, List.length_take]; omega
  refine forLoop_at (it' := h₃.objs.size + 4) (by rw [Heap.size_push, Heap.size_push, Heap.size_push, Heap.size_push]) ?_
  have kp3 : ∀ {o1 o2 o3 o4 o5 : Obj} b o, h₃.get? b = some o → (((((h₃.push o1).push o2).push o3).push o4).push o5).get? b = some o := fun b o e => Heap.get?_push_of_some _ (Heap.get?_push_of_some _ (Heap.get?_push_of_some _ (Heap.get?_push_of_some _ (Heap.get?_push_of_some _ e))))
  refine codeAny_forLoop_any (fun n s' => ∃ i tl ss g m h tk, n = ((ps.take k).reverse).length - i + 1 ∧ s' = { s with heap := h, toks := tk } ∧
    LSt outer s.heap s.heap.objs.size (h₃.objs.size + 4) (h₃.objs.size + 3) h₀.objs.size h₁.objs.size ((vs.take k).reverse) ((ps.take k).reverse) i tl ss g m h ∧ Brs ss ∧ ss.length ≤ i ∧ i ≤ ((ps.take k).reverse).length ∧ tl ++ rightGo ss g (((ps.take k).reverse).drop i) = rightGo [] true ((ps.take k).reverse)) ?_ _
    ⟨0, [], [], true, _, _, _, rfl, rfl, { kf := Kp.kf fun b o e => kp3 b o (k₃ b o e), nL := new _ (Nat.le_refl _), nit := new _ (by omega), nta := new _ (by omega), nsa := new _ (by omega), ns := hn₃.keeps kp3, mt := rfl, ms := rfl, mg := rfl, iter := push5_iter _ _ _ _ _, lst_ := (push4_list _ _ _ _ hpick).push _, tups := ((hT.take k).rev).to fun T vs ht => IsTuple.keep ht fun o e => kp3 _ o (k₃ _ o e), told := pt₃.at fun o e => kp3 _ o e, seen := ⟨[], ps₃.at fun o e => kp3 _ o e, .nil⟩, d1 := Nat.ne_of_gt (show h₀.objs.size < h₃.objs.size + 3 by omega), d2 := Nat.ne_of_gt (show h₁.objs.size < h₃.objs.size + 3 by omega), d3 := Nat.ne_of_lt hts }, fun x hx => absurd hx List.not_mem_nil, Nat.le_refl _, Nat.zero_le _, rfl⟩
  rintro n s' ⟨i, tl, ss, g, m, h, tk, rfl, rfl, X, hb, hlen, hi, heq⟩
  have B' : ∀ {i tl ss g m h}, LSt outer s.heap s.heap.objs.size (h₃.objs.size + 4) (h₃.objs.size + 3) h₀.objs.size h₁.objs.size ((vs.take k).reverse) ((ps.take k).reverse) i tl ss g m h → Base w h := fun X => B.kf hok X.kf
  cases hq : ((ps.take k).reverse).drop i with
  | nil =>
    have hge : ((ps.take k).reverse).length ≤ i := List.drop_eq_nil_iff.mp hq
    refine wpAny_pyNext_list_end hA.hh X.iter X.lst_ (by rw [List.getElem?_toArray]; exact List.getElem?_eq_none (by rw [hus]; exact hge)) fun h' he => wpAny_execs_nil ?_
    refine wpAny_execs_cons (wpAny_Return_some (nm_loc (X.ns.at' fun o e => he _ o (Ne.symm (iter_ne_ns X.iter X.ns)) e) X.mt ?_))
    refine hQ h₀.objs.size h' _ (X.kf.but X.nit he) X.nta ?_
    rw [hq] at heq
    have e2 : tl = rightGo [] true ((ps.take k).reverse) := by simpa [rightGo] using heq
    rw [← e2]
    exact X.told.at fun o e => he _ o (list_ne_iter X.told.isList X.iter) e
  | cons p rest =>
    have hlt : i < ((ps.take k).reverse).length := by
      rcases Nat.lt_or_ge i ((ps.take k).reverse).length with h | h
      · exact h
      · rw [List.drop_eq_nil_iff.mpr h] at hq; cases hq
    have hp : ((ps.take k).reverse)[i]? = some p := by
      have := List.head?_drop (l := (ps.take k).reverse) (i := i)
      rw [hq] at this; simpa using this.symm
    have hrest : ((ps.take k).reverse).drop (i + 1) = rest := by rw [← List.tail_drop, hq]; rfl
    have hpok := hqs p (List.mem_of_getElem? hp)
    refine Exists.elim (X.tups.get hp) fun T y1 => Exists.elim y1 fun ta y2 => Exists.elim y2 fun tb y3 => ?_
    refine wpAny_pyNext_list_item X.iter X.lst_ (by simpa using y3.1) fun h₄ it₄ hs₄ => ?_
    have X₄ := X.next hs₄.extBut it₄
    refine wpAny_letOwnedTupleGo_listiter it₄ ?_
    refine assign_pair hA.hh (IsTuple.but y3.2 hs₄.extBut (tup_ne_iter y3.2 X.iter)) X₄.ns fun h₅ tk₅ hn₅ hk₅ => ?_
    have X₅ := X₄.store hk₅ hn₅ (g' := g) (by rw [if_neg (by decide), if_neg (by decide)]; exact X.mt) (by rw [if_neg (by decide), if_neg (by decide)]; exact X.ms) (by rw [if_neg (by decide), if_neg (by decide)]; exact X.mg)
    refine wpAny_execs_cons (wpAny_mono (Q := fun f s' => f = Flow.next ∧ ∃ m h tk, s' = { s with heap := h, toks := tk } ∧ LSt outer s.heap s.heap.objs.size (h₃.objs.size + 4) (h₃.objs.size + 3) h₀.objs.size h₁.objs.size ((vs.take k).reverse) ((ps.take k).reverse) (i + 1) tl (seenOf ss p)
      (if p.2 = emp then g else (g && decide (highW (seenOf ss p) = cl))) m h) ?_ ?_ fun _ _ x => x)
    · refine wpAny_If (wpAny_isTrue_value (nm_loc hn₅ (if_pos rfl) (P.truthy_str ?_ ?_)))
      · rcases hpok with e | e | e <;> rw [e] <;> decide
      rcases hpok with e | e
      · refine Eq.mpr (if_neg (fun q => ?_)) (wpAny_execs_nil ?_)
        · rw [e] at q; exact absurd q (by decide)
        · have e1 : seenOf ss p = ss := by rw [seenOf, if_pos e]
          rw [e1, if_pos e]
          exact ⟨rfl, _, h₅, _, rfl, X₅⟩
      · have hne := br_ne e
        refine Eq.mpr (if_pos ?_) ?_
        · rcases e with e | e <;> rw [e] <;> decide
        refine Exists.elim X₅.seen fun sv hsv => ?_
        refine wpAny_execs_cons (wpAny_Expr_any (MethodCall_ (nm_loc hn₅ X₅.ms (gm_append hsv.1 (callWith_method1 (spliced_more (nm_loc hn₅ (if_pos rfl) (spliced_none (wpAny_list_append_plain hsv.1 (fun h₆ hpl₆ hs₆ => ?_) ?_)))))))))
        · have X₆ := X₅.appSeen hs₆.extBut hsv.2 hsv.1 hpl₆
          have hse : seenOf ss p = ss ++ [p.2] := by rw [seenOf, if_neg hne]
          have hbr : Brs (ss ++ [p.2]) := fun x hx => by
            rcases List.mem_append.mp hx with q | q
            · exact hb x q
            · rw [List.mem_singleton.mp q]; exact e
          rw [hse, if_neg hne]
          refine wpAny_execs_cons (wpAny_Assign_Name (BoolOp_and (nm_loc X₆.ns X₆.mg (wpAny_truthy_bool ?_))))
          cases hg : g with
          | false =>
            refine Eq.mpr (if_neg Bool.false_ne_true) (st_loc X₆.ns fun h₇ hn₇ hs₇ => wpAny_execs_nil ?_)
            exact ⟨rfl, _, h₇, _, rfl, X₆.store hs₇.extBut hn₇ (by rw [if_neg (by decide)]; exact X₆.mt) (by rw [if_neg (by decide)]; exact X₆.ms) (if_pos rfl)⟩
          | true =>
            refine Eq.mpr (if_pos rfl) (BoolOp_one (wpAny_Compare1 ?_))
            refine Call_ (nm_glob (B' X₆) rfl (callWith_def rfl (spliced_more (nm_glob (B' X₆) rfl (spliced_more (nm_loc X₆.ns X₆.ms (spliced_none ⟨(B' X₆).k 83 _ rfl, ?_⟩)))))))
            refine Exists.elim X₆.seen fun sv₆ hsv₆ => ?_
            refine middle_high (outer := _ :: outer) (hA.deeper (by omega) (by omega)) (by show A.depth + 1 < 800; omega) (by show A.units + 3 < 4000; omega) (B' X₆) (by rw [Around.deeper, hfr]; rfl) ?_ hsv₆.1.isList hsv₆.2 hbr ?_ fun t₇ h₇ tk₇ k₇ => ?_
            · exact (hok.to X₆.kf.slot).cons (show ScopeKind.function ≠ ScopeKind.module by decide) rfl X₆.ns B.fresh
            · rw [strsAre_len hsv₆.2, List.length_append, List.length_singleton]; omega
            have X₇ := X₆.mid hok rfl k₇
            refine wpAny_Constant_str (eq_str (st_loc X₇.ns fun h₈ hn₈ hs₈ => wpAny_execs_nil ?_))
            exact ⟨rfl, _, h₈, _, rfl, X₇.store hs₈.extBut hn₈ (by rw [if_neg (by decide)]; exact X₆.mt) (by rw [if_neg (by decide)]; exact X₆.ms) (by rw [if_pos rfl, beq_lit cl_lit, Bool.true_and])⟩
        · have := strsAre_len hsv.2
          exact Nat.le_trans (by rw [List.size_toArray, this]; omega : sv.toArray.size ≤ 64) (show 64 ≤ sizeLine by decide)
    · rintro f s'' ⟨rfl, m₆, h₆, tk₆, rfl, X₆⟩
      obtain ⟨g', hG⟩ : ∃ g', (if p.2 = emp then g else (g && decide (highW (seenOf ss p) = cl))) = g' := ⟨_, rfl⟩
      rw [hG] at X₆
      have hb₆ : Brs (seenOf ss p) := by
        unfold seenOf
        split
        · exact hb
        · rename_i hne
          intro x hx
          rcases List.mem_append.mp hx with q | q
          · exact hb x q
          · rw [List.mem_singleton.mp q]; exact hpok.resolve_left hne
      have hl₆ : (seenOf ss p).length ≤ i + 1 := by
        unfold seenOf
        split
        · omega
        · rw [List.length_append, List.length_singleton]; omega
      have heq₆ : ∀ b, (g' && decide (lowW (seenOf ss p) = if seenOf ss p = [] then noMsg else op)) = b → (tl ++ [b]) ++ rightGo (seenOf ss p) g' (((ps.take k).reverse).drop (i + 1)) = rightGo [] true ((ps.take k).reverse) := fun b hbb => by
        rw [← heq, hq, hrest, rightGo, hG, hbb, List.append_assoc]; rfl
      have hmore : ((ps.take k).reverse).length - (i + 1) + 1 < ((ps.take k).reverse).length - i + 1 := by omega
      have hszT : ∀ {h}, LSt outer s.heap s.heap.objs.size (h₃.objs.size + 4) (h₃.objs.size + 3) h₀.objs.size h₁.objs.size ((vs.take k).reverse) ((ps.take k).reverse) (i + 1) tl (seenOf ss p) g' m₆ h → (tl.map Value.bool).toArray.size ≤ sizeLine := fun _ => by
        have := congrArg List.length heq
        rw [List.length_append, rightGo_length, rightGo_length] at this
        exact Nat.le_trans (by rw [List.size_toArray, List.length_map]; omega : (tl.map Value.bool).toArray.size ≤ 64) (show 64 ≤ sizeLine by decide)
      refine wpAny_execs_cons (wpAny_Expr_any (MethodCall_ (nm_loc X₆.ns X₆.mt (gm_append X₆.told (callWith_method1 (spliced_more (BoolOp_and (nm_loc X₆.ns X₆.mg (wpAny_truthy_bool ?_)))))))))
      cases hg : g' with
      | false =>
        rw [hg] at X₆ heq₆ hszT
        refine Eq.mpr (if_neg Bool.false_ne_true) (spliced_none (wpAny_list_append_plain X₆.told (fun h₇ hpl₇ hs₇ => wpAny_execs_nil ?_) (hszT X₆)))
        exact ⟨_, hmore, i + 1, tl ++ [false], seenOf ss p, false, _, h₇, _, rfl, rfl, X₆.appTold hs₇.extBut hpl₇, hb₆, hl₆, hlt, heq₆ false rfl⟩
      | true =>
        rw [hg] at X₆ heq₆ hszT
        refine Eq.mpr (if_pos rfl) (BoolOp_one (wpAny_Compare1 ?_))
        refine Call_ (nm_glob (B' X₆) rfl (callWith_def rfl (spliced_more (nm_glob (B' X₆) rfl (spliced_more (nm_loc X₆.ns X₆.ms (spliced_none ⟨(B' X₆).k 83 _ rfl, ?_⟩)))))))
        refine Exists.elim X₆.seen fun sv₆ hsv₆ => ?_
        have h64v : sv₆.length < 64 := by rw [strsAre_len hsv₆.2]; omega
        refine middle_low (outer := _ :: outer) (hA.deeper (by omega) (by omega)) (by show A.depth + 1 < 800; omega) (by show A.units + 3 < 4000; omega) (B' X₆) (by rw [Around.deeper, hfr]; rfl) ?_ hsv₆.1.isList hsv₆.2 hb₆ h64v fun t₇ h₇ tk₇ k₇ => ?_
        · exact (hok.to X₆.kf.slot).cons (show ScopeKind.function ≠ ScopeKind.module by decide) rfl X₆.ns B.fresh
        have X₇ := X₆.mid hok rfl k₇
        refine Exists.elim X₇.seen fun sv₇ hsv₇ => ?_
        have hlv := strsAre_len hsv₇.2
        refine IfExp_ (wpAny_isTrue_value (nm_loc X₇.ns X₇.ms (wpAny_truthy_list hsv₇.1.isList ?_ ?_)))
        · rw [List.size_toArray, hlv]; omega
        by_cases hse : seenOf ss p = []
        · have hnil : sv₇ = [] := List.length_eq_zero_iff.mp (by rw [hlv, hse]; rfl)
          refine Eq.mpr (if_neg (fun q => ?_)) (wpAny_Constant_str (eq_str (spliced_none (wpAny_list_append_plain X₇.told (fun h₈ hpl₈ hs₈ => wpAny_execs_nil ?_) (hszT X₇)))))
          · rw [hnil] at q; exact absurd q (by decide)
          · exact ⟨_, hmore, i + 1, tl ++ [_], seenOf ss p, true, _, h₈, _, rfl, rfl, X₇.appTold hs₈.extBut hpl₈, hb₆, hl₆, hlt, heq₆ _ (by rw [if_pos hse, Bool.true_and]; exact (beq_lit rfl).symm)⟩
        · have hnn : sv₇ ≠ [] := fun q => hse (List.length_eq_zero_iff.mp (by rw [← hlv, q]; rfl))
          refine Eq.mpr (if_pos ?_) (wpAny_Constant_str (eq_str (spliced_none (wpAny_list_append_plain X₇.told (fun h₈ hpl₈ hs₈ => wpAny_execs_nil ?_) (hszT X₇)))))
          · cases sv₇ with
            | nil => exact absurd rfl hnn
            | cons a b => rfl
          · exact ⟨_, hmore, i + 1, tl ++ [_], seenOf ss p, true, _, h₈, _, rfl, rfl, X₇.appTold hs₈.extBut hpl₈, hb₆, hl₆, hlt, heq₆ _ (by rw [if_neg hse, Bool.true_and]; exact (beq_lit op_lit).symm)⟩
end
end Mine
end

-- M19
section
open PySem PySem.W PySem.W.X PyProof.Rows PySem.Spec PySem.SeqAt PyProof.V
namespace Mine
open Sem (wp)

/-- all that stood stands: L not looked at, the frames fs up to their slots -/
structure KL (L : Addr) (fs : List Addr) (h h' : Heap) : Prop where
  keep : ∀ b o, b ≠ L → b ∉ fs → h.get? b = some o → h'.get? b = some o
  slot : ∀ b o, b ≠ L → h.get? b = some o → (∀ vs, o.data ≠ .fields vs) → ∃ sl, h'.get? b = some { o with slots := sl }
section
variable {L : Addr} {fs : List Addr} {h h' h'' : Heap}
theorem KL.refl (L : Addr) (fs : List Addr) (h : Heap) : KL L fs h h := ⟨fun _ _ _ _ e => e, fun _ o _ e _ => ⟨o.slots, e⟩⟩
theorem KL.trans (x : KL L fs h h') (y : KL L fs h' h'') : KL L fs h h'' := ⟨fun b o n q e => y.keep b o n q (x.keep b o n q e), fun b o n e hf => by
  obtain ⟨sl, e'⟩ := x.slot b o n e hf
  obtain ⟨sl', e''⟩ := y.slot b _ n e' hf
  exact ⟨sl', e''⟩⟩
theorem KF.kl (x : KF (L :: fs) h h') : KL L fs h h' := ⟨fun b o n q e => x.keep b o (fun hm => by
  rcases List.mem_cons.mp hm with z | z
  · exact n z
  · exact q z) e, fun b o _ e hf => x.slot b o e hf⟩
theorem kl_but (x : Heap.ExtBut L h h') : KL L fs h h' := ⟨fun b o n _ e => x b o n e, fun b o n e _ => ⟨o.slots, x b o n e⟩⟩
theorem Kp.kl (k : Kp h h') : KL L fs h h' := ⟨fun b o _ _ e => k b o e, fun b o _ e _ => ⟨o.slots, k b o e⟩⟩
theorem KL.but {X : Addr} (x : KL L fs h h') (hX : h.get? X = none) (hs : Heap.ExtBut X h' h'') : KL L fs h h'' :=
  have ne : ∀ b o, h.get? b = some o → b ≠ X := fun b o e q => by rw [q, hX] at e; cases e
  ⟨fun b o n q e => hs b o (ne b o e) (x.keep b o n q e), fun b o n e hf => let ⟨sl, e'⟩ := x.slot b o n e hf; ⟨sl, hs b _ (ne b o e) e'⟩⟩
theorem KL.kf (x : KL L fs h h') (hL : h.get? L = none) : KF fs h h' :=
  have ne : ∀ b o, h.get? b = some o → b ≠ L := fun b o e q => by rw [q, hL] at e; cases e
  ⟨fun b o q e => x.keep b o (ne b o e) q e, fun b o e hf => x.slot b o (ne b o e) e hf⟩
theorem KL.list {a : Addr} {vs : Array Value} (k : KL L fs h h') (x : h.IsList a vs) (hne : a ≠ L) : h'.IsList a vs := by
  obtain ⟨o, ho, hc, n, hd⟩ := x
  obtain ⟨sl, e⟩ := k.slot a o hne ho (fun vs q => by rw [hd] at q; cases q)
  exact ⟨_, e, hc, n, hd⟩
theorem KL.tuple {a : Addr} {vs : Array Value} (k : KL L fs h h') (x : h.IsTuple a vs) (hne : a ≠ L) : h'.IsTuple a vs := by
  obtain ⟨o, ho, hc, n, hd⟩ := x
  obtain ⟨sl, e⟩ := k.slot a o hne ho (fun vs q => by rw [hd] at q; cases q)
  exact ⟨_, e, hc, n, hd⟩
end
theorem fresh_none {h : Heap} {a : Addr} (ha : h.objs.size ≤ a) : h.get? a = none := by
  cases e : h.get? a with
  | none => rfl
  | some o => exact absurd (Heap.lt_size e) (Nat.not_lt.mpr ha)
theorem list_ne_range {h : Heap} {a I : Addr} {vs : Array Value} {x l c : Int} (k : h.IsList a vs) (y : IsRangeIter h I x l c) : a ≠ I := by
  obtain ⟨o, ho, hc, n, hd⟩ := k
  exact ne_of_data ho y (by rw [hd]; intro q; cases q)
theorem ns_ne_range {h : Heap} {a I : Addr} {m : Str → Option Value} {x l c : Int} (k : h.Ns a m) (y : IsRangeIter h I x l c) : a ≠ I := by
  obtain ⟨o, es, p, ho, hd, _⟩ := k
  exact ne_of_data ho y (by rw [hd]; intro q; cases q)
section
variable {prog : Program} {w : World} {A : Around} {E : Value → Shared → Prop} {env : Env}

theorem comp_kf {s : Shared} {elt iter : Expr} {x y : Str} {px py : Pos} {scope : Scope} {cl : List (Str × Addr)} {pos spos : Pos} {fs : List Addr} {n : Nat} {G : Nat → Array Value} {Q : Flow → Shared → Prop}
    (hh : A.handled = none) (hsw : swapsWith (.ListComp elt [⟨.Name x px, iter, [], 0⟩] scope pos) (some (.Name y py)) spos.line env = pure true)
    (hclos : closureFor scope env = pure cl) (hcell : ∀ z ∈ scope.names, z.2 ≠ .cell) (hkind : scope.kind = .function)
    (hnames : ∀ z ∈ scope.names, z.2 = .local → scope.names.lookup z.1 = some .local) (hx : scope.names.lookup x = some .local)
    (hy : env.kindOf y = some .local) (hk : env.scope.kind = .function) (n64 : n < 64)
    (h : wpAny (model prog w) A (eval iter env) (fun xv s₁ => ∃ (r : Addr) (t u v : Tok) (m : Str → Option Value), xv = .ref r ∧ IsRange s₁.heap r 0 n 1 t u v ∧ s₁.heap.Ns env.locals m ∧ (∀ a ∈ env.locals :: fs, ∃ o, s₁.heap.get? a = some o) ∧
      (∀ (C : Addr) (i : Nat) (t : Tok) (h₃ : Heap) (tk₃ : Nat) (m₃ : Str → Option Value) (E' : Value → Shared → Prop) (Q' : Value → Shared → Prop), i < n → s₁.heap.get? C = none → KF (env.locals :: fs) s₁.heap h₃ → h₃.Ns C m₃ → m₃ x = some (.int i t) →
        (∀ ta h' tk, KF (env.locals :: fs) h₃ h' → h₃.get? ta = none → h'.IsList ta (G i) → Q' (.ref ta) { s₁ with heap := h', toks := tk }) →
        wpAny (model prog w) A (eval elt (compEnvC scope cl C env)) Q' E' { s₁ with heap := h₃, toks := tk₃ }) ∧
      (∀ D (ys : List Value) h' tk, s₁.heap.get? D = none → h'.IsList D ys.toArray → ys.length = n → (∀ j v, ys[j]? = some v → ∃ ta, v = .ref ta ∧ h'.IsList ta (G j)) →
        h'.Ns env.locals (fun z => if z = y then some (.ref D) else m z) → KL env.locals fs s₁.heap h' → Q .next { s₁ with heap := h', toks := tk })) E s)
    (hs : ∀ x, foldedSetIterable iter env x = pure x := by intro _; rfl) :
    wpAny (model prog w) A (exec (.Assign [.Name y py] (.ListComp elt [⟨.Name x px, iter, [], 0⟩] scope pos) spos) env) Q E s := by
  have hp : (env.scope.kind == .class || (env.scope.kind == .module && env.locals != env.globals)) = false := by rw [hk]; rfl
  rw [exec_Assign_Name_used _ _ _ _ hsw]
  refine wpAny_bind (wpAny_standAt (wpAny_bind ?_))
  show wpAny _ A (do let _ ← comprehension (.ListComp elt [⟨.Name x px, iter, [], 0⟩] scope pos) scope env _ (newList []) false (eval iter env) (some (assign (.Name y py) env))) _ _ s
  refine wpAny_bind (wpAny_mono (wpAny_comprehension_free (use := some (assign (.Name y py) env)) (Q := fun _ s' => Q .next s') rfl hs hclos hkind hnames
    (wpAny_mono h (fun xv s₁ h₁ => ?_) fun _ _ e => e)) (fun _ s' hq => wpAny_pure (wpAny_pure hq)) fun _ _ e => e)
  obtain ⟨r, t, u, v, m, rfl, hr, hnL, hfs, helt, hQ⟩ := h₁
  refine wpAny_pyIter_range hr (small_one (by omega) (by omega) (by omega) (by omega)) ?_
  have hsize : Builtin.Range.rangeSize 0 n 1 = (n : Int) := by rw [rangeSize_one]; split <;> omega
  rw [hsize]
  refine wpAny_newObj_type (wpAny_newFunctionEnv hcell (by intro y hy; simp at hy) (fun h₁ hns₁ hsb₁ => ?_) hkind)
  dsimp only at hns₁ hsb₁ ⊢
  generalize hH1 : s₁.heap.push { cls := .type "range_iterator", data := .fields #[rawInt 0, rawInt n, rawInt 1] } = H1 at hns₁ hsb₁ ⊢
  generalize hH2 : H1.push { cls := .type "list", dict := none, data := .seq ([] : List Value).toArray } = H2 at hns₁ hsb₁ ⊢
  have z1 : H1.objs.size = s₁.heap.objs.size + 1 := by rw [← hH1, Heap.size_push]
  have z2 : H2.objs.size = s₁.heap.objs.size + 2 := by rw [← hH2, Heap.size_push, z1]
  have hneD : H1.objs.size ≠ H2.objs.size := by omega
  have hneI : s₁.heap.objs.size ≠ H2.objs.size := by omega
  have nI : s₁.heap.get? s₁.heap.objs.size = none := fresh_none (Nat.le_refl _)
  have nD : s₁.heap.get? H1.objs.size = none := fresh_none (by omega)
  have nC : s₁.heap.get? H2.objs.size = none := fresh_none (by omega)
  have old : Kp s₁.heap h₁ := fun b o e => hsb₁.extBut b o (fun q => by rw [q, nC] at e; cases e) (Heap.get?_push_of_some _ (hH2 ▸ Heap.get?_push_of_some _ (hH1 ▸ Heap.get?_push_of_some _ e)))
  have hacc : h₁.PlainList H1.objs.size #[] := ⟨_, hsb₁.extBut _ _ hneD (Heap.get?_push_of_some _ (hH2 ▸ Heap.get?_push_size _ rfl))⟩
  have hit : IsRangeIter h₁ s₁.heap.objs.size 0 n 1 := hsb₁.extBut _ _ hneI (Heap.get?_push_of_some _ (hH2 ▸ Heap.get?_push_of_some _ (hH1 ▸ Heap.get?_push_size _ rfl)))
  generalize s₁.heap.objs.size = I at *
  generalize H1.objs.size = D at *
  generalize H2.objs.size = C at *
  have outs : ∀ X, s₁.heap.get? X = none → X ∉ env.locals :: fs := fun X hX hm => by
    obtain ⟨o, e⟩ := hfs X hm
    rw [hX] at e; cases e
  have hLI : env.locals ≠ I := fun q => outs I nI (q ▸ List.mem_cons_self)
  have hLD : env.locals ≠ D := fun q => outs D nD (q ▸ List.mem_cons_self)
  have hLC : env.locals ≠ C := fun q => outs C nC (q ▸ List.mem_cons_self)
  have hx' : (compEnvC scope cl C env).kindOf x = some .local := lookup_relabel_local hx
  have hk' : (compEnvC scope cl C env).scope.kind = .function := by simp [compEnvC, relabel, hkind]
  have loop : ∀ s₃ : Shared, s₃ = { s₁ with heap := h₁, toks := s₁.toks + ([] : List (Str × Value)).length } →
      codeAny (model prog w) A (.compLoop (.ListComp elt [⟨.Name x px, iter, [], 0⟩] scope pos) 0 (.ref I) (.ref D) (compEnvC scope cl C env))
        (compPost (model prog w) A E (some (assign (.Name y py) env)) (fun _ s' => Q .next s') (.ref D) C) s₃ := by
    rintro s₃ rfl
    refine codeAny_compLoop_list (fun k s' => ∃ (i : Nat) (ys : List Value) (h : Heap) (tk : Nat) (m' : Str → Option Value), k = n - i + 1 ∧ s' = { s₁ with heap := h, toks := tk } ∧ KF (env.locals :: fs) s₁.heap h ∧ IsRangeIter h I i ((n : Int) - (i : Nat)) 1 ∧
      h.Ns C m' ∧ h.PlainList D ys.toArray ∧ ys.length = i ∧ i ≤ n ∧ ∀ j v, ys[j]? = some v → ∃ ta, v = .ref ta ∧ ta ≠ D ∧ h.IsList ta (G j)) ?_ _
      ⟨0, [], h₁, _, _, rfl, rfl, old.kf, by simpa using hit, hns₁, hacc, rfl, Nat.zero_le _, fun j v e => by simp at e⟩
    rintro k s' ⟨i, ys, h, tk, m', rfl, rfl, kf, it, hC, pl, hl, hi, hys⟩
    have hCI : C ≠ I := ns_ne_range hC it
    have hDI : D ≠ I := list_ne_range pl.isList it
    have hDC : D ≠ C := list_ne_ns pl.isList hC
    by_cases hlt : i < n
    · refine wpAny_pyNext_range_item it (by omega) fun h₂ it₂ hs₂ => ?_
      refine wpAny_assign_Name (wpAny_storeName_local hx' (hC.sameBut hs₂ hCI) (fun h₃ hn₃ hs₃ => ?_) (by rw [hk']; rfl))
      have kf₃ : KF (env.locals :: fs) s₁.heap h₃ := (kf.but nI hs₂.extBut).but nC hs₃.extBut
      refine helt C i _ h₃ _ _ _ _ hlt nC kf₃ hn₃ (if_pos rfl) fun ta h₄ tk₄ kf₄ hta hl₄ => ?_
      have pl₃ : h₃.PlainList D ys.toArray := (pl.extBut hs₂.extBut hDI).extBut hs₃.extBut hDC
      have pl₄ : h₄.PlainList D ys.toArray := pl₃.at fun o e => kf₄.keep _ o (outs D nD) e
      have htD : ta ≠ D := fun q => by
        obtain ⟨o, e, _⟩ := pl₃.isList
        rw [← q, hta] at e; cases e
      refine wpAny_list_append_plain pl₄ (fun h₅ hpl₅ hs₅ => ?_) (Nat.le_trans (by rw [List.size_toArray]; omega : ys.toArray.size ≤ 64) (show 64 ≤ sizeLine by decide))
      have it₅ : IsRangeIter h₅ I ((i + 1 : Nat) : Int) ((n : Int) - ((i + 1 : Nat) : Int)) 1 := by
        have e2 : (n : Int) - ((i + 1 : Nat) : Int) = (n : Int) - (i : Int) - 1 := by push_cast; omega
        rw [e2]
        exact hs₅.extBut _ _ (Ne.symm hDI) (kf₄.keep _ _ (outs I nI) (hs₃.extBut _ _ (Ne.symm hCI) it₂))
      refine ⟨n - (i + 1) + 1, by omega, i + 1, ys ++ [.ref ta], h₅, _, _, rfl, rfl, ⟨fun b o q e => hs₅.extBut b o (fun z => by rw [z, nD] at e; cases e) (kf₄.keep b o q (kf₃.keep b o q e)), fun b o e hf => ?_⟩, it₅,
        (kf₄.slot.ns hn₃).sameBut hs₅ (Ne.symm hDC), by simpa using hpl₅, by simp [hl], hlt, fun j v e => ?_⟩
      · obtain ⟨sl, e1⟩ := kf₃.slot b o e hf
        obtain ⟨sl', e2⟩ := kf₄.slot b _ e1 hf
        exact ⟨sl', hs₅.extBut b _ (fun z => by rw [z, nD] at e; cases e) e2⟩
      · rcases Nat.lt_or_ge j ys.length with hj | hj
        · rw [List.getElem?_append_left hj] at e
          obtain ⟨ta', rfl, hne', hl'⟩ := hys j v e
          refine ⟨ta', rfl, hne', ?_⟩
          have l₃ : h₃.IsList ta' (G j) := ((hl'.extBut hs₂.extBut (list_ne_range hl' it)).extBut hs₃.extBut (list_ne_ns (hl'.extBut hs₂.extBut (list_ne_range hl' it)) (hC.sameBut hs₂ hCI)))
          exact (slot_list kf₄.slot l₃).extBut hs₅.extBut hne'
        · rw [List.getElem?_append_right hj] at e
          cases hq : j - ys.length with
          | zero =>
            rw [hq] at e
            have hv : Value.ref ta = v := by simpa using e
            subst hv
            have : j = i := by omega
            subst this
            exact ⟨ta, rfl, htD, hl₄.extBut hs₅.extBut htD⟩
          | succ q => rw [hq] at e; simp at e
    · have hin : i = n := by omega
      refine wpAny_pyNext_range_end hh it (by omega) fun h₂ he₂ => ?_
      show wpAny _ A (assign (.Name y py) env (.ref D)) _ _ _
      have kf₂ : KF (env.locals :: fs) s₁.heap h₂ := kf.but nI he₂
      have hL₂ : h₂.Ns env.locals m := kf₂.slot.ns hnL
      have hC₂ : h₂.Ns C m' := hC.at' fun o e => he₂ _ o hCI e
      refine wpAny_assign_Name (wpAny_storeName_local hy hL₂ (fun h₃ hn₃ hs₃ => ?_) hp)
      refine ⟨m', hC₂.sameBut hs₃ (Ne.symm hLC), fun h₄ hs₄ => ?_⟩
      have lst : ∀ a vs, a ≠ D ∨ a = D → h.IsList a vs → h₄.IsList a vs := fun a vs _ hl' => by
        have l₂ := hl'.extBut he₂ (list_ne_range hl' it)
        have l₃ := l₂.extBut hs₃.extBut (list_ne_ns l₂ hL₂)
        exact l₃.extBut hs₄.extBut (list_ne_ns l₃ (hC₂.sameBut hs₃ (Ne.symm hLC)))
      refine hQ D ys h₄ _ nD (lst D _ (.inr rfl) pl.isList) (by omega) (fun j v e => ?_) (hn₃.sameBut hs₄ hLC) ?_
      · obtain ⟨ta, e1, e2, e3⟩ := hys j v e
        exact ⟨ta, e1, lst ta _ (.inl e2) e3⟩
      · exact (KL.trans kf₂.kl (kl_but hs₃.extBut)).but nC hs₄.extBut
  exact codeAny_compStart_list (loop _ rfl) (wpAny_pyIter_rangeiter hit (loop _ rfl))
end
end Mine
end

-- M20
section
open PySem PySem.W PySem.W.X PyProof.Rows PySem.Spec PySem.SeqAt PyProof.V
namespace Mine
open Sem (wp)

/-- what _check_parenthesis answers -/
def checkF (x : Str) : Bool := chkGo 0 (escGo 0 false (stripF x).cps.toList)
structure GoodText (x : Str) : Prop where
  ascii : x.cps.all (· < 128) = true
  fin : escEnd false x.cps.toList = false
  len : x.length ≤ 200
  ascii' : (stripF x).cps.all (· < 128) = true
  fin' : escEnd false (stripF x).cps.toList = false
def wholeOf (ps : List (Str × Str)) : Str := ps.foldl (fun a p => a ++ p.1) emp
structure StretchOk (ps : List (Str × Str)) (i j : Nat) : Prop where
  good : GoodText (wholeOf ((ps.drop i).take (j + 1 - i)))
  left : (leftGo [] true (ps.drop i))[j - i]? = some (checkF (wholeOf ((ps.drop i).take (j + 1 - i))))
  right : (rightGo [] true (ps.take (j + 1)).reverse)[j - i]? = some (checkF (wholeOf ((ps.drop i).take (j + 1 - i))))
theorem wholeOf_step {ps : List (Str × Str)} {i j : Nat} {p : Str × Str} (hij : i ≤ j) (hp : ps[j]? = some p) : wholeOf ((ps.drop i).take (j + 1 - i)) = wholeOf ((ps.drop i).take (j - i)) ++ p.1 := by
  have e : j + 1 - i = (j - i) + 1 := by omega
  have hq : (ps.drop i)[j - i]? = some p := by rw [List.getElem?_drop, show i + (j - i) = j by omega]; exact hp
  rw [e, List.take_add_one, hq]
  simp [wholeOf]

def lG (ps : List (Str × Str)) (j : Nat) : Array Value := ((leftGo [] true (ps.drop j)).map Value.bool).toArray
def rG (ps : List (Str × Str)) (j : Nat) : Array Value := ((rightGo [] true (ps.take (j + 1)).reverse).map Value.bool).toArray

structure ESt (outer : List Env) (s : Shared) (L r D1 D2 : Addr) (ys1 ys2 : List Value) (ps : List (Str × Str)) (m : Str → Option Value) (s' : Shared) : Prop where
  kl : KL L (fr outer) s.heap s'.heap
  cell : s'.heap.IsCell (L + 1) (some (.ref r))
  l1 : s'.heap.IsList D1 ys1.toArray
  l2 : s'.heap.IsList D2 ys2.toArray
  e1 : ∀ j v, ys1[j]? = some v → ∃ ta, v = .ref ta ∧ s'.heap.IsList ta (lG ps j)
  e2 : ∀ j v, ys2[j]? = some v → ∃ ta, v = .ref ta ∧ s'.heap.IsList ta (rG ps j)
  gens : ∃ l : List GenState, s'.gens = s.gens ++ l.toArray ∧ ∀ x ∈ l, x.bare = true
  os : s'.os = s.os
  ns : s'.heap.Ns L m
  ms : ∃ t, m "size" = some (.int ps.length t)
  ml : m "left" = some (.ref D1)
  mr : m "right" = some (.ref D2)
section
variable {outer : List Env} {s s' s'' : Shared} {L r D1 D2 : Addr} {ys1 ys2 : List Value} {ps : List (Str × Str)} {m m' : Str → Option Value} {h' : Heap} {tk : Nat}
theorem cell_keep {w : World} {h h' : Heap} {c : Addr} {v : Option Value} {fs : List Addr} (x : h.IsCell c v) (hne : c ≠ L) (hf : c ∉ fs) (k : KL L fs h h') : h'.IsCell c v := let ⟨o, ho, hd⟩ := x; ⟨o, k.keep _ _ hne hf ho, hd⟩
theorem new_notin {w : World} {h : Heap} {a : Addr} (hok : FrOk w h outer) (hn : h.get? a = none) : a ∉ fr outer := fun hm => by
  obtain ⟨_, o, e, _⟩ := hok.mem hm
  rw [hn] at e; cases e
theorem ESt.step {w : World} (x : ESt outer s L r D1 D2 ys1 ys2 ps m s') (hok : FrOk w s.heap outer) (hc : s.heap.get? (L + 1) = none) (k : KL L (fr outer) s'.heap h') (hn : h'.Ns L m') (ms : ∃ t, m' "size" = some (.int ps.length t)) (ml : m' "left" = some (.ref D1)) (mr : m' "right" = some (.ref D2)) :
    ESt outer s L r D1 D2 ys1 ys2 ps m' { s' with heap := h', toks := tk } where
  kl := x.kl.trans k
  cell := cell_keep (w := w) x.cell (Nat.ne_of_gt (Nat.lt_succ_self L)) (new_notin hok hc) k
  l1 := k.list x.l1 (list_ne_ns x.l1 x.ns)
  l2 := k.list x.l2 (list_ne_ns x.l2 x.ns)
  e1 := fun j v e => let ⟨ta, e1, e2⟩ := x.e1 j v e; ⟨ta, e1, k.list e2 (list_ne_ns e2 x.ns)⟩
  e2 := fun j v e => let ⟨ta, e1, e2⟩ := x.e2 j v e; ⟨ta, e1, k.list e2 (list_ne_ns e2 x.ns)⟩
  gens := x.gens
  os := x.os
  ns := hn
  ms := ms
  ml := ml
  mr := mr
theorem ESt.store {w : World} {y : Str} {v : Option Value} (x : ESt outer s L r D1 D2 ys1 ys2 ps m s') (hok : FrOk w s.heap outer) (hc : s.heap.get? (L + 1) = none) (hs : Heap.SameBut L s'.heap h') (hn : h'.Ns L (fun z => if z = y then v else m z))
    (h1 : Str.ofString "size" ≠ y := by decide) (h2 : Str.ofString "left" ≠ y := by decide) (h3 : Str.ofString "right" ≠ y := by decide) : ESt outer s L r D1 D2 ys1 ys2 ps (fun z => if z = y then v else m z) { s' with heap := h', toks := tk } :=
  x.step hok hc (kl_but hs.extBut) hn (let ⟨t, e⟩ := x.ms; ⟨t, (if_neg h1).trans e⟩) ((if_neg h2).trans x.ml) ((if_neg h3).trans x.mr)
theorem ESt.tok (x : ESt outer s L r D1 D2 ys1 ys2 ps m s') : ESt outer s L r D1 D2 ys1 ys2 ps m { s' with toks := tk } := ⟨x.kl, x.cell, x.l1, x.l2, x.e1, x.e2, x.gens, x.os, x.ns, x.ms, x.ml, x.mr⟩
theorem ESt.aft (x : ESt outer s L r D1 D2 ys1 ys2 ps m s') (a : Aft s' s'') : ESt outer s L r D1 D2 ys1 ys2 ps m s'' where
  kl := x.kl.trans a.heap.kl
  cell := x.cell.keeps a.heap
  l1 := a.heap.list x.l1
  l2 := a.heap.list x.l2
  e1 := fun j v e => let ⟨ta, e1, e2⟩ := x.e1 j v e; ⟨ta, e1, a.heap.list e2⟩
  e2 := fun j v e => let ⟨ta, e1, e2⟩ := x.e2 j v e; ⟨ta, e1, a.heap.list e2⟩
  gens := by
    obtain ⟨l, e, hl⟩ := x.gens
    obtain ⟨l', e', hl'⟩ := a.gens
    refine ⟨l ++ l', ?_, ?_⟩
    · rw [e', e]; apply Array.ext'; simp
    · intro z hz
      rcases List.mem_append.mp hz with h | h
      · exact hl z h
      · exact hl' z h
  os := a.os.trans x.os
  ns := x.ns.keeps a.heap
  ms := x.ms
  ml := x.ml
  mr := x.mr
theorem ESt.iter {I : Addr} {a b c : Int} (x : ESt outer s L r D1 D2 ys1 ys2 ps m s') (hI : s.heap.get? I = none) (it : IsRangeIter s'.heap I a b c) (hs : Heap.ExtBut I s'.heap h') : ESt outer s L r D1 D2 ys1 ys2 ps m { s' with heap := h', toks := tk } where
  kl := x.kl.but hI hs
  cell := let ⟨o, ho, hd⟩ := x.cell; ⟨o, hs _ _ (ne_of_data ho it (by rw [hd]; intro q; cases q)) ho, hd⟩
  l1 := x.l1.extBut hs (list_ne_range x.l1 it)
  l2 := x.l2.extBut hs (list_ne_range x.l2 it)
  e1 := fun j v e => let ⟨ta, e1, e2⟩ := x.e1 j v e; ⟨ta, e1, e2.extBut hs (list_ne_range e2 it)⟩
  e2 := fun j v e => let ⟨ta, e1, e2⟩ := x.e2 j v e; ⟨ta, e1, e2.extBut hs (list_ne_range e2 it)⟩
  gens := x.gens
  os := x.os
  ns := x.ns.at' fun o e => hs _ o (ns_ne_range x.ns it) e
  ms := x.ms
  ml := x.ml
  mr := x.mr
end
theorem whole_start {ps : List (Str × Str)} {i : Nat} {mv : Option Value} {t : Tok} (h : mv = some (.str (Str.ofString "") t)) : ∃ t, mv = some (.str (wholeOf ((ps.drop i).take (i - i))) t) := by
  have e : wholeOf ((ps.drop i).take (i - i)) = Str.ofString "" := by rw [Nat.sub_self, List.take_zero]; decide +kernel
  exact ⟨t, by rw [e]; exact h⟩
theorem bool_self (c : Bool) : (!(Value.bool c == Value.bool c)) = false := by cases c <;> rfl
theorem push2_range (h : Heap) (o : Obj) {a l l' c : Int} (e : l = l') : IsRangeIter ((h.push o).push { cls := .type "range_iterator", data := .fields #[rawInt a, rawInt l, rawInt c] }) (h.objs.size + 1) a l' c := by
  subst e
  have : ((h.push o).push { cls := .type "range_iterator", data := .fields #[rawInt a, rawInt l, rawInt c] }).get? (h.push o).objs.size = some { cls := .type "range_iterator", data := .fields #[rawInt a, rawInt l, rawInt c] } := Heap.get?_push_size _ rfl
  rw [Heap.size_push] at this
  exact this
section
variable {prog : Program} {w : World} {A : Around} {E : Value → Shared → Prop} {s : Shared} {env : Env}

theorem nm_cell {M : Model} {x : Str} {pos : Pos} {c : Addr} {v : Value} {Q : Value → Shared → Prop} (hc : env.cells.lookup x = some c) (hv : s.heap.IsCell c (some v)) (h : Q v s)
    (hk : env.scope.kind = .function := by rfl) (hl : env.kindOf x = some .cell := by rfl) (hd : (x == ("__debug__" : Str)) = false := by decide) :
    wpAny M A (eval (.Name x pos) env) Q E s := wpAny_Name (wpAny_loadName_cell hk hl hc hv h) hd

theorem tail_temp {value slice : Expr} {o i : Value} {T id : String} {Q : Value → Shared → Prop} (hT : s.TypeIs o T)
    (hl : typeLookup (.type T) "__getitem__" = pure (some (.builtin id))) (h : wpAny (model prog w) A (getItem o i) Q E s)
    (hs : subscripted slice false o i = operate [o, i] (getItem o i) := by with_unfolding_all rfl) :
    wpAny (model prog w) A (subscriptTail value slice o i) Q E s := by
  unfold subscriptTail
  refine wpAny_bind ?_
  rw [getitemInPython_of_ne hT.not_modules]
  refine wpAny_bind (wpAny_specialOf hT hl ?_)
  have fin : wpAny (model prog w) A (subscripted slice false o i) (fun r s₃ => wpAny (model prog w) A (letTemporaryGo value o r >>= fun _ => pure r) Q E s₃) E s := by
    rw [hs]
    exact wpAny_operating (wpAny_mono h (fun r s₃ h₃ => wpAny_bind (wpAny_letTemporaryGo (wpAny_pure h₃))) fun _ _ x => x)
  first
    | exact wpAny_pure (wpAny_bind fin)
    | exact wpAny_bind (wpAny_pure (wpAny_bind fin))
    | exact wpAny_bind fin
theorem item_tupleT {value slice : Expr} {t : Addr} {items : Array Value} {k : Int} {u : Tok} {j : Nat} {x : Value} {Q : Value → Shared → Prop} (ht : IsTup s.heap t items)
    (hlo : -(2 ^ 63) ≤ k) (hhi : k < 2 ^ 63) (hj : seqIndex? k items.size = some j) (hx : items[j]? = some x) (h : Q x s)
    (hs : subscripted slice false (.ref t) (.int k u) = operate [.ref t, .int k u] (getItem (.ref t) (.int k u)) := by with_unfolding_all rfl) :
    wpAny (model prog w) A (subscriptTail value slice (.ref t) (.int k u)) Q E s :=
  tail_temp ht.typeIs slot_tuple_getitem.lookup (getItem_tuple ht hlo hhi hj hx h) hs
theorem item_listT {value slice : Expr} {l : Addr} {items : Array Value} {k : Int} {u : Tok} {x : Value} {Q : Value → Shared → Prop} (hl : s.heap.IsList l items)
    (h0 : 0 ≤ k) (hfit : k < 2 ^ 63) (hx : items[k.toNat]? = some x) (h : Q x s)
    (hs : subscripted slice false (.ref l) (.int k u) = operate [.ref l, .int k u] (getItem (.ref l) (.int k u)) := by with_unfolding_all rfl) :
    wpAny (model prog w) A (subscriptTail value slice (.ref l) (.int k u)) Q E s :=
  tail_temp hl.typeIs slot_list_getitem.lookup (wpAny_getItem_list hl h0 hfit hx h) hs

theorem check_spec {x : Str} {t : Tok} {Q : Value → Shared → Prop} (hA : Room A) (hd : A.depth < 800) (hu : A.units < 4000) (B : Base w s.heap) (g : GoodText x) (hQ : ∀ s', Aft s s' → Q (.bool (checkF x)) s') :
    wpAny (model prog w) A (call (.ref 35) [.str x t]) Q E s :=
  check_tail hA hd hu B (fun A s Q E t a b c d e => strip_spec a b c d g.ascii g.fin g.len e) g.ascii' g.fin' hQ

theorem call_fnC {a : Addr} {oc : Value} {od : Option Addr} {osl : Array (Option Value)} {fd : FuncData} {body : List Stmt} {args : List Value} {binds : List (Str × Value)} {Q : Value → Shared → Prop}
    (hA : Room A) (B : Base w s.heap) (ho : (Mine.hd.heap_39 w.params).lookup a = some ⟨oc, od, .func fd, osl⟩) (hbody : fd.body = .stmts body) (hcd : codeIn (Mine.hd.heap_39 w.params) fd.code fd.qualname = true)
    (hbind : bindArgs fd ⟨args, []⟩ = pure binds) (hclo : fd.closure = [])
    (hkind : ∀ x ∈ binds, fd.scope.names.lookup x.1 = some .local ∨ (fd.scope.names.lookup x.1 = some .cell ∧ ((cellsFrom (s.heap.objs.size + 1) fd.scope.names []).lookup x.1).isSome = true))
    (h : ∀ s₁, InCallC s s.heap.objs.size (bindL (callEnvC fd s.heap.objs.size a).kindOf binds fun _ => none) (callEnvC fd s.heap.objs.size a).cells (bindC (callEnvC fd s.heap.objs.size a).kindOf binds fun _ => none) s₁ →
      wpAny (model prog w) (A.deeper (callEnvC fd s.heap.objs.size a)) (execs body (callEnvC fd s.heap.objs.size a)) (fun f s' => Q (match f with | .ret v => v | _ => .none) s') (fun _ _ => False) s₁)
    (hco : fd.scope.isCoroutine = false := by rfl) (hgen : fd.scope.isGenerator = false := by rfl) (hk : fd.scope.kind = .function := by rfl) :
    wpAny (model prog w) A (call (.ref a) args) Q E s :=
  wpAny_call (codeAny_call_cells (Nat.lt_of_lt_of_le hA.depth (by decide)) (B.k a _ ho) rfl B.lim (codeRec_of B.k hcd) hbody hbind hclo hkind
    (fun s₁ x => wpAny_mono (h s₁ x) (fun _ _ x => x) fun _ _ x => x.elim) hco hgen hk)

theorem every_stretch {r : Addr} {outer : List Env} {vs : List Value} {ps : List (Str × Str)} {Q : Value → Shared → Prop} (hA : Room A) (hd : A.depth < 780) (hu : A.units < 3800) (B : Base w s.heap) (hfr : A.frames = some outer) (hok : FrOk w s.heap outer)
    (hr : s.heap.IsList r vs.toArray) (hT : TupsAre s.heap vs ps) (hps : RowOk ps) (h64 : ps.length < 64) (hlaw : ∀ i j, i ≤ j → j < ps.length → StretchOk ps i j)
    (hQ : ∀ s', KF (fr outer) s.heap s'.heap → (∃ l : List GenState, s'.gens = s.gens ++ l.toArray ∧ ∀ x ∈ l, x.bare = true) → s'.os = s.os → Q (.bool true) s') :
    wpAny (model prog w) A (call (.ref 102) [.ref r]) Q E s := by
  refine call_fnC hA B rfl rfl rfl rfl rfl ?kind fun s₁ x => ?_
  case kind =>
    intro x hx
    rw [List.mem_singleton.mp hx]
    exact .inr ⟨rfl, rfl⟩
  obtain ⟨⟨⟨h₀, tk₀, rfl⟩, hn, hk, hfresh⟩, hcell, _, _⟩ := x
  have hc0 : h₀.IsCell (s.heap.objs.size + 1) (some (.ref r)) := hcell "row" _ rfl
  have nL : s.heap.get? s.heap.objs.size = none := fresh_none (Nat.le_refl _)
  have nC : s.heap.get? (s.heap.objs.size + 1) = none := fresh_none (Nat.le_succ _)
  have fC : s.heap.objs.size + 1 ∉ fr outer := new_notin hok nC
  have neC : s.heap.objs.size + 1 ≠ s.heap.objs.size := Nat.ne_of_gt (Nat.lt_succ_self _)
  have BK : ∀ {h}, KL s.heap.objs.size (fr outer) s.heap h → Base w h := fun k => B.kf hok (k.kf nL)
  have hlen : vs.toArray.size = ps.length := by rw [List.size_toArray, hT.len]
  have hfit : (vs.toArray.size : Int) < 2 ^ 63 := by rw [hlen]; omega
  have k0 : KL s.heap.objs.size (fr outer) s.heap h₀ := Kp.kl hk
  refine wpAny_execs_cons (wpAny_Assign_Name ?_)
  refine Call_ (nm_boot (BK k0) boot_len (PyProof.Rows.callWith_builtin1 (spliced_more (nm_cell rfl hc0 (spliced_none (len_list (Kp.list hk hr) hfit (st_loc hn fun h₁ hn₁ hs₁ => ?_)))))))
  rw [hlen] at hn₁
  have k1 : KL s.heap.objs.size (fr outer) s.heap h₁ := k0.trans (kl_but hs₁.extBut)
  have hc1 : h₁.IsCell (s.heap.objs.size + 1) (some (.ref r)) := hc0.sameBut hs₁ neC
  have hrow : ∀ {h}, KL s.heap.objs.size (fr outer) s.heap h → h.IsList r vs.toArray := fun k => slot_list (k.kf nL).slot hr
  have htup : ∀ {h}, KL s.heap.objs.size (fr outer) s.heap h → TupsAre h vs ps := fun k => hT.to fun T vs ht => slot_tuple (k.kf nL).slot ht
  have alive : ∀ {h : Heap} {m : Str → Option Value}, KL s.heap.objs.size (fr outer) s.heap h → h.Ns s.heap.objs.size m → ∀ a ∈ s.heap.objs.size :: fr outer, ∃ o, h.get? a = some o := fun k hn a ha => by
    rcases List.mem_cons.mp ha with q | q
    · obtain ⟨o, _, _, e, _⟩ := hn
      exact ⟨o, q ▸ e⟩
    · obtain ⟨_, o, e, hf⟩ := hok.mem q
      obtain ⟨sl, e'⟩ := (k.kf nL).slot a o e hf
      exact ⟨_, e'⟩
  refine wpAny_execs_cons (comp_kf (G := lG ps) (fs := fr outer) (n := ps.length) hA.hh rfl rfl (by decide) rfl (by decide) rfl rfl rfl h64 ?_)
  refine Call_ (nm_boot (BK k1) boot_range (PyProof.Rows.callWith_type1 (spliced_more (nm_loc hn₁ (if_pos rfl) (spliced_none (call_range_1 ?_))))))
  refine ⟨_, _, _, _, _, rfl, IsRange.new .., hn₁.push _, alive (k1.trans (Kp.kl fun b o e => Heap.get?_push_of_some _ e)) (hn₁.push _), ?_, ?_⟩
  · intro C i t h₃ tk₃ m₃ E' Q' hi hC kf₃ hn₃ hm₃ hq
    have k3 : KL s.heap.objs.size (fr outer) s.heap h₃ := (k1.trans (Kp.kl fun b o e => Heap.get?_push_of_some _ e)).trans kf₃.kl
    have hc3 : h₃.IsCell (s.heap.objs.size + 1) (some (.ref r)) := cell_keep (w := w) (hc1.keeps fun b o e => Heap.get?_push_of_some _ e) neC fC kf₃.kl
    refine Call_ (nm_glob (BK k3) rfl (callWith_def rfl (spliced_more (nm_cell rfl hc3 (spliced_more (nm_loc hn₃ hm₃ (spliced_none ⟨(BK k3).k 90 _ rfl, ?_⟩)))))))
    refine from_left (outer := _ :: outer) (hA.deeper (by omega) (by omega)) (by show A.depth + 1 < 790; omega) (by show A.units + 3 < 3900; omega) (BK k3) (by rw [Around.deeper, hfr]; rfl) ?_ (hrow k3) (htup k3) hps h64 fun ta h' tk k hta pl => ?_
    rotate_left
    · exact hq ta h' tk k hta pl.isList
    exact (hok.to (k3.kf nL).slot).cons (show ScopeKind.function ≠ ScopeKind.module by decide) rfl (kf₃.slot.ns (hn₁.push _)) B.fresh
  intro D1 ys1 h₂ tk₂ nD1 l1 len1 e1 hn₂ k12
  have k2 : KL s.heap.objs.size (fr outer) s.heap h₂ := (k1.trans (Kp.kl fun b o e => Heap.get?_push_of_some _ e)).trans k12
  have hc2 : h₂.IsCell (s.heap.objs.size + 1) (some (.ref r)) := cell_keep (w := w) (hc1.keeps fun b o e => Heap.get?_push_of_some _ e) neC fC k12
  refine wpAny_execs_cons (comp_kf (G := rG ps) (fs := fr outer) (n := ps.length) hA.hh rfl rfl (by decide) rfl (by decide) rfl rfl rfl h64 ?_)
  refine Call_ (nm_boot (BK k2) boot_range (PyProof.Rows.callWith_type1 (spliced_more (nm_loc hn₂ rfl (spliced_none (call_range_1 ?_))))))
  refine ⟨_, _, _, _, _, rfl, IsRange.new .., hn₂.push _, alive (k2.trans (Kp.kl fun b o e => Heap.get?_push_of_some _ e)) (hn₂.push _), ?_, ?_⟩
  · intro C i t h₃ tk₃ m₃ E' Q' hi hC kf₃ hn₃ hm₃ hq
    have k3 : KL s.heap.objs.size (fr outer) s.heap h₃ := (k2.trans (Kp.kl fun b o e => Heap.get?_push_of_some _ e)).trans kf₃.kl
    have hc3 : h₃.IsCell (s.heap.objs.size + 1) (some (.ref r)) := cell_keep (w := w) (hc2.keeps fun b o e => Heap.get?_push_of_some _ e) neC fC kf₃.kl
    refine Call_ (nm_glob (BK k3) rfl (callWith_def rfl (spliced_more (nm_cell rfl hc3 (spliced_more (wpAny_BinOp (nm_loc hn₃ hm₃ (wpAny_Constant_int (add_int (spliced_none ⟨(BK k3).k 97 _ rfl, ?_⟩))))))))))
    refine from_right (k := i + 1) (outer := _ :: outer) (hA.deeper (by omega) (by omega)) (by show A.depth + 1 < 790; omega) (by show A.units + 3 < 3900; omega) (BK k3) (by rw [Around.deeper, hfr]; rfl) ?_ (hrow k3) (htup k3) hps h64 fun ta h' tk k hta pl => ?_
    rotate_left
    · exact hq ta h' tk k hta pl.isList
    exact (hok.to (k3.kf nL).slot).cons (show ScopeKind.function ≠ ScopeKind.module by decide) rfl (kf₃.slot.ns (hn₂.push _)) B.fresh
  intro D2 ys2 h₃ tk₃ nD2 l2 len2 e2 hn₃ k23
  have k3 : KL s.heap.objs.size (fr outer) s.heap h₃ := (k2.trans (Kp.kl fun b o e => Heap.get?_push_of_some _ e)).trans k23
  have hc3 : h₃.IsCell (s.heap.objs.size + 1) (some (.ref r)) := cell_keep (w := w) (hc2.keeps fun b o e => Heap.get?_push_of_some _ e) neC fC k23
  have X3 : ∀ tk, ESt outer s s.heap.objs.size r D1 D2 ys1 ys2 ps _ { s with heap := h₃, toks := tk } := fun tk =>
    { kl := k3, cell := hc3, l1 := k23.list (l1.push _) (list_ne_ns l1 hn₂), l2 := l2,
      e1 := fun j v e => let ⟨ta, q1, q2⟩ := e1 j v e; ⟨ta, q1, k23.list (q2.push _) (list_ne_ns q2 hn₂)⟩, e2 := e2, gens := ⟨[], by simp, by simp⟩, os := rfl, ns := hn₃, ms := ⟨_, rfl⟩, ml := rfl, mr := rfl }
  have hsz1 : Builtin.Range.rangeSize 0 ps.length 1 = (ps.length : Int) := by rw [rangeSize_one]; split <;> omega
  refine wpAny_execs_cons (wpAny_For ?_)
  refine Call_ (nm_boot (BK k3) boot_range (PyProof.Rows.callWith_type1 (spliced_more (nm_loc hn₃ rfl (spliced_none (call_range_1 ?_))))))
  refine wpAny_pyIter_range (IsRange.new ..) (small_one (by omega) (by omega) (by omega) (by omega)) ?_
  refine forLoop_at (it' := h₃.objs.size + 1) (by rw [Heap.size_push]) ?_
  have hLh : s.heap.objs.size < h₃.objs.size := hn₃.lt
  have nI : s.heap.get? (h₃.objs.size + 1) = none := fresh_none (by omega)
  refine codeAny_forLoop_any (fun k s' => ∃ (i : Nat) (m : Str → Option Value), k = ps.length - i + 1 ∧ ESt outer s s.heap.objs.size r D1 D2 ys1 ys2 ps m s' ∧ IsRangeIter s'.heap (h₃.objs.size + 1) i ((ps.length : Int) - (i : Nat)) 1 ∧ i ≤ ps.length) ?_ _
    ⟨0, _, rfl, (X3 0).step hok nC (Kp.kl fun b o e => Heap.get?_push_of_some _ (Heap.get?_push_of_some _ e)) ((hn₃.push _).push _) ⟨_, rfl⟩ rfl rfl, ?_, Nat.zero_le _⟩
  rotate_left
  · exact push2_range _ _ (hsz1.trans (by omega))
  rintro k s' ⟨i, m, rfl, X, it, hi⟩
  by_cases hlt : i < ps.length
  · refine wpAny_pyNext_range_item it (by omega) fun h₄ it₄ hs₄ => ?_
    have X₄ := X.iter (tk := s'.toks + 1) nI it hs₄.extBut
    refine wpAny_of_eq (a := ()) rfl (wpAny_assign_Name (st_loc X₄.ns fun h₅ hn₅ hs₅ => ?_))
    refine wpAny_execs_cons (wpAny_Assign_Name (wpAny_Constant_str (st_loc hn₅ fun h₆ hn₆ hs₆ => ?_)))
    have X₅ := X₄.store (tk := 0) hok nC hs₅ hn₅
    have X₆ := X₅.store (tk := 0) hok nC hs₆ hn₆
    obtain ⟨tms, hms⟩ := X₆.ms
    have it₆ : IsRangeIter h₆ (h₃.objs.size + 1) ((i : Int) + 1) ((ps.length : Int) - (i : Nat) - 1) 1 := hs₆.extBut _ _ (Ne.symm (ns_ne_range X₄.ns it₄)) (hs₅.extBut _ _ (Ne.symm (ns_ne_range X₄.ns it₄)) it₄)
    have hsz2 : Builtin.Range.rangeSize i ps.length 1 = (ps.length : Int) - (i : Nat) := by rw [rangeSize_one]; split <;> omega
    refine wpAny_execs_cons (wpAny_For ?_)
    refine Call_ (nm_boot (BK X₆.kl) boot_range (PyProof.Rows.callWith_type1 (spliced_more (nm_loc hn₆ rfl (spliced_more (nm_loc hn₆ hms (spliced_none (call_range_2 ?_))))))))
    refine wpAny_pyIter_range (IsRange.new ..) (small_one (by omega) (by omega) (by omega) (by omega)) ?_
    refine forLoop_at (it' := h₆.objs.size + 1) (by rw [Heap.size_push]) ?_
    have hLh₆ : s.heap.objs.size < h₆.objs.size := hn₆.lt
    have nI2 : s.heap.get? (h₆.objs.size + 1) = none := fresh_none (by omega)
    have hI2 : h₃.objs.size + 1 ≠ h₆.objs.size + 1 := Nat.ne_of_lt (Nat.lt_succ_of_lt (Heap.lt_size it₆))
    refine codeAny_forLoop_any (fun k s'' => ∃ (j : Nat) (m : Str → Option Value), k = ps.length - j + 1 ∧ ESt outer s s.heap.objs.size r D1 D2 ys1 ys2 ps m s'' ∧ IsRangeIter s''.heap (h₆.objs.size + 1) j ((ps.length : Int) - (j : Nat)) 1 ∧
      IsRangeIter s''.heap (h₃.objs.size + 1) ((i : Int) + 1) ((ps.length : Int) - (i : Nat) - 1) 1 ∧ i ≤ j ∧ j ≤ ps.length ∧ (∃ t, m "first" = some (.int i t)) ∧ ∃ t, m "whole" = some (.str (wholeOf ((ps.drop i).take (j - i))) t)) ?_ _
      ⟨i, _, rfl, X₆.step hok nC (Kp.kl fun b o e => Heap.get?_push_of_some _ (Heap.get?_push_of_some _ e)) ((hn₆.push _).push _) ⟨_, hms⟩ X₆.ml X₆.mr, push2_range _ _ hsz2, Heap.get?_push_of_some _ (Heap.get?_push_of_some _ it₆), Nat.le_refl _, hi, ⟨_, rfl⟩, whole_start (if_pos rfl)⟩
    rintro k s'' ⟨j, m₁, rfl, Y, jt, it', hij, hj, hfst, hwh⟩
    by_cases hlt' : j < ps.length
    · refine wpAny_pyNext_range_item jt (by omega) fun h₇ jt₇ hs₇ => ?_
      have Y₇ := Y.iter (tk := s''.toks + 1) nI2 jt hs₇.extBut
      refine wpAny_of_eq (a := ()) rfl (wpAny_assign_Name (st_loc Y₇.ns fun h₈ hn₈ hs₈ => ?_))
      have Y₈ := Y₇.store (tk := 0) hok nC hs₈ hn₈
      obtain ⟨tms, hms⟩ := Y.ms
      obtain ⟨tfs, hfst⟩ := hfst
      obtain ⟨twh, hwh⟩ := hwh
      have jt₈ : IsRangeIter h₈ (h₆.objs.size + 1) ((j : Int) + 1) ((ps.length : Int) - (j : Nat) - 1) 1 := hs₈.extBut _ _ (Ne.symm (ns_ne_range Y₇.ns jt₇)) jt₇
      have it₈ : IsRangeIter h₈ (h₃.objs.size + 1) ((i : Int) + 1) ((ps.length : Int) - (i : Nat) - 1) 1 := hs₈.extBut _ _ (Ne.symm (ns_ne_range Y.ns it')) (hs₇.extBut _ _ hI2 it')
      have hL := hlaw i j hij hlt'
      obtain ⟨p, hp⟩ : ∃ p, ps[j]? = some p := ⟨_, List.getElem?_eq_getElem hlt'⟩
      have hstep := wholeOf_step hij hp
      have hlen' : (wholeOf ((ps.drop i).take (j - i))).length + p.1.length ≤ 200 := by
        have := hL.good.len
        rwa [hstep, Str.length_append] at this
      obtain ⟨T, ta, tb, hvT, hTup⟩ := (htup Y₈.kl).get hp
      refine wpAny_execs_cons (wpAny_Assign_Name (wpAny_BinOp (nm_loc hn₈ (upd_ne hwh (by decide)) (Subscript_ (Subscript_ (nm_cell rfl Y₈.cell (nm_loc hn₈ (if_pos rfl) (item_list (x := .ref T) (hrow Y₈.kl) (by omega) (by omega) (by simpa using hvT) (wpAny_Constant_int (item_tupleT (j := 0) hTup (by decide) (by decide) rfl rfl (add_str (fun t₉ tk₉ => ?_) ?_)))))))))))
      rotate_left
      · exact Nat.le_trans hlen' (show 200 ≤ sizeLine by decide)
      refine st_loc hn₈ fun h₉ hn₉ hs₉ => ?_
      have Y₉ := Y₈.store (tk := 0) hok nC hs₉ hn₉
      refine wpAny_execs_cons (wpAny_Assign_Name (Call_ (nm_glob (BK Y₉.kl) rfl (callWith_def rfl (spliced_more (nm_loc hn₉ (if_pos rfl) (spliced_none ⟨(BK Y₉.kl).k 35 _ rfl, ?_⟩)))))))
      refine check_spec (hA.deeper (by omega) (by omega)) (by show A.depth + 1 < 800; omega) (by show A.units + 3 < 4000; omega) (BK Y₉.kl) (hstep ▸ hL.good) fun s₁₀ a₁₀ => ?_
      have Y₁₀ := ESt.aft Y₉.tok a₁₀
      refine st_loc Y₁₀.ns fun h₁₁ hn₁₁ hs₁₁ => ?_
      have Y₁₁ := Y₁₀.store (tk := 0) hok nC hs₁₁ hn₁₁
      have hleft := hL.left
      have hright := hL.right
      rw [hstep] at hleft hright
      obtain ⟨v1, hv1⟩ : ∃ v, ys1[i]? = some v := ⟨_, List.getElem?_eq_getElem (by omega)⟩
      obtain ⟨v2, hv2⟩ : ∃ v, ys2[j]? = some v := ⟨_, List.getElem?_eq_getElem (by omega)⟩
      obtain ⟨ta1, rfl, hl1⟩ := Y₁₁.e1 i v1 hv1
      obtain ⟨ta2, rfl, hl2⟩ := Y₁₁.e2 j v2 hv2
      have hsub : ((j : Int) - (i : Int)).toNat = j - i := by omega
      refine wpAny_execs_cons (wpAny_If (isTrue_or (wpAny_isTrue_Compare1 (nm_loc hn₁₁ (if_pos rfl) (Subscript_ (Subscript_ (nm_loc hn₁₁ Y₁₁.ml (nm_loc hn₁₁ hfst (item_list (x := .ref ta1) Y₁₁.l1 (by omega) (by omega) (by simpa using hv1)
        (wpAny_BinOp (nm_loc hn₁₁ rfl (nm_loc hn₁₁ hfst (sub_int (item_listT (x := .bool (checkF (wholeOf ((ps.drop i).take (j - i)) ++ p.1))) hl1 (by omega) (by omega) (by rw [hsub]; simp [lG, hleft]) (wpAny_isNot_plain rfl (wpAny_truthy_bool ?_))))))))))))))))
      refine Eq.mpr (if_neg (by rw [bool_self]; exact Bool.false_ne_true)) ?_
      refine isTrue_or (wpAny_isTrue_Compare1 (nm_loc hn₁₁ (if_pos rfl) (Subscript_ (Subscript_ (nm_loc hn₁₁ Y₁₁.mr (nm_loc hn₁₁ rfl (item_list (x := .ref ta2) Y₁₁.l2 (by omega) (by omega) (by simpa using hv2)
        (wpAny_BinOp (nm_loc hn₁₁ rfl (nm_loc hn₁₁ hfst (sub_int (item_listT (x := .bool (checkF (wholeOf ((ps.drop i).take (j - i)) ++ p.1))) hl2 (by omega) (by omega) (by rw [hsub]; simp [rG, hright]) (wpAny_isNot_plain rfl (wpAny_truthy_bool ?_))))))))))))))
      refine Eq.mpr (if_neg (by rw [bool_self]; exact Bool.false_ne_true)) (isTrue_or_nil ?_)
      refine Eq.mpr (if_neg Bool.false_ne_true) (wpAny_execs_nil (wpAny_execs_nil ?_))
      have fwd : ∀ {X : Addr} {a b c : Int}, IsRangeIter h₈ X a b c → X ≠ s.heap.objs.size → IsRangeIter h₁₁ X a b c := fun q hne => hs₁₁.extBut _ _ hne (a₁₀.heap _ _ (hs₉.extBut _ _ hne q))
      have jt₁₁ := fwd jt₈ (Ne.symm (ns_ne_range hn₈ jt₈))
      have ee : (ps.length : Int) - (j : Nat) - 1 = (ps.length : Int) - ((j + 1 : Nat) : Int) := by push_cast; omega
      rw [ee] at jt₁₁
      exact ⟨ps.length - (j + 1) + 1, by omega, j + 1, _, rfl, Y₁₁.tok, jt₁₁, fwd it₈ (Ne.symm (ns_ne_range hn₈ it₈)), by omega, hlt', ⟨tfs, hfst⟩, ⟨t₉, by rw [hstep]; rfl⟩⟩
    · refine wpAny_pyNext_range_end hA.hh jt (by omega) fun h₇ he₇ => wpAny_execs_nil (wpAny_execs_nil ?_)
      have Y₇ := Y.iter (tk := 0) nI2 jt he₇
      have it₇ : IsRangeIter h₇ (h₃.objs.size + 1) ((i + 1 : Nat) : Int) ((ps.length : Int) - ((i + 1 : Nat) : Int)) 1 := by
        have ee : (ps.length : Int) - ((i + 1 : Nat) : Int) = (ps.length : Int) - (i : Nat) - 1 := by push_cast; omega
        rw [ee]
        exact he₇ _ _ hI2 it'
      exact ⟨ps.length - (i + 1) + 1, by omega, i + 1, m₁, rfl, Y₇.tok, it₇, hlt⟩
  · refine wpAny_pyNext_range_end hA.hh it (by omega) fun h₄ he₄ => wpAny_execs_nil ?_
    have X₄ := X.iter (tk := 0) nI it he₄
    refine wpAny_execs_cons (wpAny_Return_some (wpAny_Constant_bool ?_))
    exact hQ _ (X₄.kl.kf nL) X.gens X.os
end
end Mine
end

-- M21
section
open PySem PySem.W PySem.W.X PyProof.Rows PySem.Spec PySem.SeqAt PyProof.V
namespace Mine
open Sem (wp)

/-- the pieces that _law_piece gives -/
def pieces : List (Str × Str) := [(⟨#[40]⟩, op), (⟨#[41]⟩, cl), (⟨#[92, 40]⟩, emp), (⟨#[92, 41]⟩, emp), (⟨#[92, 34]⟩, emp), (⟨#[92, 92]⟩, emp),
  (⟨#[34, 40, 34]⟩, emp), (⟨#[34, 41, 34]⟩, emp), (⟨#[34, 34]⟩, emp), (⟨#[34, 92, 34, 41, 34]⟩, emp), (⟨#[34, 41, 41, 40, 34]⟩, emp), (⟨#[97]⟩, emp), (⟨#[32]⟩, emp), (⟨#[91]⟩, emp), (⟨#[44]⟩, emp)]
theorem idx_esc {k : Int} (h0 : 0 ≤ k) (h1 : k < 4) : ∃ c, (seqIndex? k (Str.ofString "()\"\\").length).bind ((Str.ofString "()\"\\").cps[·]?) = some c ∧ (Str.ofString "\\" ++ ⟨#[c]⟩, Str.ofString "") ∈ pieces := by
  have : k = 0 ∨ k = 1 ∨ k = 2 ∨ k = 3 := by omega
  rcases this with rfl | rfl | rfl | rfl
  · exact ⟨40, by decide +kernel, by decide +kernel⟩
  · exact ⟨41, by decide +kernel, by decide +kernel⟩
  · exact ⟨34, by decide +kernel, by decide +kernel⟩
  · exact ⟨92, by decide +kernel, by decide +kernel⟩
theorem idx_plain {k : Int} (h0 : 0 ≤ k) (h1 : k < 4) : ∃ c, (seqIndex? k (Str.ofString "a [,").length).bind ((Str.ofString "a [,").cps[·]?) = some c ∧ ((⟨#[c]⟩ : Str), Str.ofString "") ∈ pieces := by
  have : k = 0 ∨ k = 1 ∨ k = 2 ∨ k = 3 := by omega
  rcases this with rfl | rfl | rfl | rfl
  · exact ⟨97, by decide +kernel, by decide +kernel⟩
  · exact ⟨32, by decide +kernel, by decide +kernel⟩
  · exact ⟨91, by decide +kernel, by decide +kernel⟩
  · exact ⟨44, by decide +kernel, by decide +kernel⟩
theorem idx_quot {k : Int} (h0 : 0 ≤ k) (h1 : k < 5) : ∃ (j : Nat) (y : Str), seqIndex? k 5 = some j ∧ y.length ≤ 3 ∧ (Str.ofString "\"" ++ y ++ Str.ofString "\"", Str.ofString "") ∈ pieces ∧ ∀ {a b c d e : Tok}, ∃ u : Tok,
    (#[.str (Str.ofString "(") a, .str (Str.ofString ")") b, .str (Str.ofString "") c, .str (Str.ofString "\\\")") d, .str (Str.ofString "))(") e] : Array Value)[j]? = some (.str y u) := by
  have : k = 0 ∨ k = 1 ∨ k = 2 ∨ k = 3 ∨ k = 4 := by omega
  rcases this with rfl | rfl | rfl | rfl | rfl
  · exact ⟨0, Str.ofString "(", by decide +kernel, by decide +kernel, by decide +kernel, ⟨_, rfl⟩⟩
  · exact ⟨1, Str.ofString ")", by decide +kernel, by decide +kernel, by decide +kernel, ⟨_, rfl⟩⟩
  · exact ⟨2, Str.ofString "", by decide +kernel, by decide +kernel, by decide +kernel, ⟨_, rfl⟩⟩
  · exact ⟨3, Str.ofString "\\\")", by decide +kernel, by decide +kernel, by decide +kernel, ⟨_, rfl⟩⟩
  · exact ⟨4, Str.ofString "))(", by decide +kernel, by decide +kernel, by decide +kernel, ⟨_, rfl⟩⟩
theorem quot_cps {k : Int} (h0 : 0 ≤ k) (h1 : k < 5) {P : Prop} (h : ∀ (j : Nat) (y : Str), seqIndex? k 5 = some j → y.length ≤ 3 → (Str.ofString "\"" ++ y ++ Str.ofString "\"", Str.ofString "") ∈ pieces → (∀ {a b c d e : Tok}, ∃ u : Tok,
    (#[.str (Str.ofString "(") a, .str (Str.ofString ")") b, .str (Str.ofString "") c, .str (Str.ofString "\\\")") d, .str (Str.ofString "))(") e] : Array Value)[j]? = some (.str y u)) → P) : P := by
  obtain ⟨j, y, q1, q2, q3, q4⟩ := idx_quot h0 h1
  exact h j y q1 q2 q3 q4
theorem idx_ok {k n : Int} (h0 : 0 ≤ k) (h1 : k < n) (hn : n ≤ 100) : (decide (k < -(2 ^ 63 : Int)) || decide (k ≥ 2 ^ 63)) = false := by
  rw [decide_eq_false (by omega), decide_eq_false (by omega)]; rfl
theorem len_bs : (Str.ofString "\\").length = 1 := by decide +kernel
theorem len_qt : (Str.ofString "\"").length = 1 := by decide +kernel
theorem len_one (c : Nat) : (⟨#[c]⟩ : Str).length = 1 := rfl
theorem len_esc (c : Nat) : (Str.ofString "\\").length + (⟨#[c]⟩ : Str).length ≤ sizeLine := by
  rw [len_bs, len_one]; decide
theorem len_q1 {y : Str} (h : y.length ≤ 3) : (Str.ofString "\"").length + y.length ≤ sizeLine := by
  rw [len_qt]; exact Nat.le_trans (show 1 + y.length ≤ 4 by omega) (by decide)
theorem len_q2 {y : Str} (h : y.length ≤ 3) : (Str.ofString "\"" ++ y).length + (Str.ofString "\"").length ≤ sizeLine := by
  rw [Str.length_append, len_qt]; exact Nat.le_trans (show 1 + y.length + 1 ≤ 5 by omega) (by decide)
theorem beq_pos {a b : Int} (h : a = b) : (a == b) = true := by rw [h]; exact beq_self_eq_true b
theorem beq_neg {a b : Int} (h : a ≠ b) : ¬ (a == b) = true := fun q => h (by simpa using q)
section
variable {prog : Program} {w : World} {A : Around} {E : Value → Shared → Prop} {s : Shared} {env : Env}
theorem item_strT {value slice : Expr} {x : Str} {t u : Tok} {k : Int} {c : Nat} {Q : Value → Shared → Prop} (hr : (decide (k < -(2 ^ 63 : Int)) || decide (k ≥ 2 ^ 63)) = false) (hc : (seqIndex? k x.length).bind (x.cps[·]?) = some c)
    (h : Q (.str ⟨#[c]⟩ s.toks) { s with toks := s.toks + 1 })
    (hs : subscripted slice false (.str x t) (.int k u) = operate [.str x t, .int k u] (getItem (.str x t) (.int k u)) := by with_unfolding_all rfl) :
    wpAny (model prog w) A (subscriptTail value slice (.str x t) (.int k u)) Q E s :=
  tail_temp (typeIs_str s x t) F.slot_str_getitem.lookup (P.getItem_str hr hc h) hs

theorem item_tupleE {value slice : Expr} {t : Addr} {items : Array Value} {k : Int} {u : Tok} {j : Nat} {y : Str} {Q : Value → Shared → Prop} (ht : IsTup s.heap t items)
    (hlo : -(2 ^ 63) ≤ k) (hhi : k < 2 ^ 63) (hj : seqIndex? k items.size = some j) (hx : ∃ u, items[j]? = some (.str y u)) (h : ∀ u, Q (.str y u) s)
    (hs : subscripted slice false (.ref t) (.int k u) = operate [.ref t, .int k u] (getItem (.ref t) (.int k u)) := by with_unfolding_all rfl) :
    wpAny (model prog w) A (subscriptTail value slice (.ref t) (.int k u)) Q E s :=
  let ⟨u, e⟩ := hx; item_tupleT ht hlo hhi hj e (h u) hs
end
end Mine
end

-- M22
section
open PySem PySem.W PySem.W.X PyProof.Rows PySem.Spec PySem.SeqAt PyProof.V
namespace Mine
open Sem (wp)

section
variable {prog : Program} {w : World} {A : Around} {E : Value → Shared → Prop} {s : Shared} {env : Env}
theorem piece_k0 {n : Int} {t : Tok} {Q : Value → Shared → Prop} (hA : Room A) (B : Base w s.heap) (hkind : n.fmod 7 = 0)
    (hQ : ∀ T a b p h' tk, p ∈ pieces → Kp s.heap h' → s.heap.get? T = none → h'.IsTuple T #[.str p.1 a, .str p.2 b] → Q (.ref T) { s with heap := h', toks := tk }) :
    wpAny (model prog w) A (call (.ref 69) [.int n t]) Q E s := by
  refine call_fn hA B rfl rfl rfl rfl (by decide) (locs rfl) fun h₀ hn hk B₀ => ?_
  refine wpAny_execs_cons (wpAny_Assign_Name (wpAny_BinOp (nm_loc hn rfl (wpAny_Constant_int (mod_int (by decide) (st_loc hn fun h₁ hn₁ hs₁ => ?_))))))
  refine wpAny_execs_cons (wpAny_Assign_Name (wpAny_BinOp (nm_loc hn₁ rfl (wpAny_Constant_int (floordiv_int (by decide) (st_loc hn₁ fun h₂ hn₂ hs₂ => ?_))))))
  have low : ∀ b o, s.heap.get? b = some o → b ≠ s.heap.objs.size := fun b o e => Nat.ne_of_lt (Heap.lt_size e)
  have k₂ : Kp s.heap h₂ := fun b o e => hs₂.extBut b o (low b o e) (hs₁.extBut b o (low b o e) (hk b o e))
  have hz : s.heap.objs.size ≤ h₂.objs.size := Nat.le_of_lt hn₂.lt
  have fin : ∀ {x y : Str} {a b : Tok} {tk : Nat} {h : Heap}, Kp h₂ h → h₂.objs.size ≤ h.objs.size → (x, y) ∈ pieces → Q (.ref h.objs.size) { s with heap := h.push { cls := .type "tuple", data := .seq #[.str x a, .str y b] }, toks := tk } := fun {x y a b tk h} hk hz' hp =>
    hQ _ a b (x, y) _ _ hp (fun b o e => Heap.get?_push_of_some _ (hk b o (k₂ b o e))) (fresh_none (Nat.le_trans hz hz')) ⟨_, Heap.get?_push_size _ rfl, rfl, _, rfl⟩
  have r4 : 0 ≤ (n.fdiv 7).fmod 4 ∧ (n.fdiv 7).fmod 4 < 4 := ⟨Int.fmod_nonneg_of_pos _ (by decide), Int.fmod_lt_of_pos _ (by decide)⟩
  have r5 : 0 ≤ (n.fdiv 7).fmod 5 ∧ (n.fdiv 7).fmod 5 < 5 := ⟨Int.fmod_nonneg_of_pos _ (by decide), Int.fmod_lt_of_pos _ (by decide)⟩
  refine wpAny_execs_cons (wpAny_If (isTrue_or (wpAny_isTrue_Compare1 (nm_loc hn₂ rfl (wpAny_Constant_int (eq_int (wpAny_truthy_bool ?_)))))))
  refine Eq.mpr (if_pos (beq_pos hkind)) (Eq.mpr (if_pos rfl) ?_)
  refine wpAny_execs_cons (wpAny_Return_some (Tuple_ (spliced_more (wpAny_Constant_str (spliced_more (wpAny_Constant_str (spliced_none (wpAny_newTuple ?_))))))))
  exact fin (Kp.refl _) (Nat.le_refl _) (by decide +kernel)
theorem piece_k3 {n : Int} {t : Tok} {Q : Value → Shared → Prop} (hA : Room A) (B : Base w s.heap) (hkind : n.fmod 7 = 3)
    (hQ : ∀ T a b p h' tk, p ∈ pieces → Kp s.heap h' → s.heap.get? T = none → h'.IsTuple T #[.str p.1 a, .str p.2 b] → Q (.ref T) { s with heap := h', toks := tk }) :
    wpAny (model prog w) A (call (.ref 69) [.int n t]) Q E s := by
  refine call_fn hA B rfl rfl rfl rfl (by decide) (locs rfl) fun h₀ hn hk B₀ => ?_
  refine wpAny_execs_cons (wpAny_Assign_Name (wpAny_BinOp (nm_loc hn rfl (wpAny_Constant_int (mod_int (by decide) (st_loc hn fun h₁ hn₁ hs₁ => ?_))))))
  refine wpAny_execs_cons (wpAny_Assign_Name (wpAny_BinOp (nm_loc hn₁ rfl (wpAny_Constant_int (floordiv_int (by decide) (st_loc hn₁ fun h₂ hn₂ hs₂ => ?_))))))
  have low : ∀ b o, s.heap.get? b = some o → b ≠ s.heap.objs.size := fun b o e => Nat.ne_of_lt (Heap.lt_size e)
  have k₂ : Kp s.heap h₂ := fun b o e => hs₂.extBut b o (low b o e) (hs₁.extBut b o (low b o e) (hk b o e))
  have hz : s.heap.objs.size ≤ h₂.objs.size := Nat.le_of_lt hn₂.lt
  have fin : ∀ {x y : Str} {a b : Tok} {tk : Nat} {h : Heap}, Kp h₂ h → h₂.objs.size ≤ h.objs.size → (x, y) ∈ pieces → Q (.ref h.objs.size) { s with heap := h.push { cls := .type "tuple", data := .seq #[.str x a, .str y b] }, toks := tk } := fun {x y a b tk h} hk hz' hp =>
    hQ _ a b (x, y) _ _ hp (fun b o e => Heap.get?_push_of_some _ (hk b o (k₂ b o e))) (fresh_none (Nat.le_trans hz hz')) ⟨_, Heap.get?_push_size _ rfl, rfl, _, rfl⟩
  have r4 : 0 ≤ (n.fdiv 7).fmod 4 ∧ (n.fdiv 7).fmod 4 < 4 := ⟨Int.fmod_nonneg_of_pos _ (by decide), Int.fmod_lt_of_pos _ (by decide)⟩
  have r5 : 0 ≤ (n.fdiv 7).fmod 5 ∧ (n.fdiv 7).fmod 5 < 5 := ⟨Int.fmod_nonneg_of_pos _ (by decide), Int.fmod_lt_of_pos _ (by decide)⟩
  refine wpAny_execs_cons (wpAny_If (isTrue_or (wpAny_isTrue_Compare1 (nm_loc hn₂ rfl (wpAny_Constant_int (eq_int (wpAny_truthy_bool ?_)))))))
  refine Eq.mpr (if_neg (beq_neg (fun z : n.fmod 7 = 0 => absurd (hkind.symm.trans z) (by decide)))) (isTrue_or (wpAny_isTrue_Compare1 (nm_loc hn₂ rfl (wpAny_Constant_int (eq_int (wpAny_truthy_bool ?_))))))
  refine Eq.mpr (if_pos (beq_pos hkind)) (Eq.mpr (if_pos rfl) ?_)
  refine wpAny_execs_cons (wpAny_Return_some (Tuple_ (spliced_more (wpAny_Constant_str (spliced_more (wpAny_Constant_str (spliced_none (wpAny_newTuple ?_))))))))
  exact fin (Kp.refl _) (Nat.le_refl _) (by decide +kernel)
theorem piece_k1 {n : Int} {t : Tok} {Q : Value → Shared → Prop} (hA : Room A) (B : Base w s.heap) (hkind : n.fmod 7 = 1)
    (hQ : ∀ T a b p h' tk, p ∈ pieces → Kp s.heap h' → s.heap.get? T = none → h'.IsTuple T #[.str p.1 a, .str p.2 b] → Q (.ref T) { s with heap := h', toks := tk }) :
    wpAny (model prog w) A (call (.ref 69) [.int n t]) Q E s := by
  refine call_fn hA B rfl rfl rfl rfl (by decide) (locs rfl) fun h₀ hn hk B₀ => ?_
  refine wpAny_execs_cons (wpAny_Assign_Name (wpAny_BinOp (nm_loc hn rfl (wpAny_Constant_int (mod_int (by decide) (st_loc hn fun h₁ hn₁ hs₁ => ?_))))))
  refine wpAny_execs_cons (wpAny_Assign_Name (wpAny_BinOp (nm_loc hn₁ rfl (wpAny_Constant_int (floordiv_int (by decide) (st_loc hn₁ fun h₂ hn₂ hs₂ => ?_))))))
  have low : ∀ b o, s.heap.get? b = some o → b ≠ s.heap.objs.size := fun b o e => Nat.ne_of_lt (Heap.lt_size e)
  have k₂ : Kp s.heap h₂ := fun b o e => hs₂.extBut b o (low b o e) (hs₁.extBut b o (low b o e) (hk b o e))
  have hz : s.heap.objs.size ≤ h₂.objs.size := Nat.le_of_lt hn₂.lt
  have fin : ∀ {x y : Str} {a b : Tok} {tk : Nat} {h : Heap}, Kp h₂ h → h₂.objs.size ≤ h.objs.size → (x, y) ∈ pieces → Q (.ref h.objs.size) { s with heap := h.push { cls := .type "tuple", data := .seq #[.str x a, .str y b] }, toks := tk } := fun {x y a b tk h} hk hz' hp =>
    hQ _ a b (x, y) _ _ hp (fun b o e => Heap.get?_push_of_some _ (hk b o (k₂ b o e))) (fresh_none (Nat.le_trans hz hz')) ⟨_, Heap.get?_push_size _ rfl, rfl, _, rfl⟩
  have r4 : 0 ≤ (n.fdiv 7).fmod 4 ∧ (n.fdiv 7).fmod 4 < 4 := ⟨Int.fmod_nonneg_of_pos _ (by decide), Int.fmod_lt_of_pos _ (by decide)⟩
  have r5 : 0 ≤ (n.fdiv 7).fmod 5 ∧ (n.fdiv 7).fmod 5 < 5 := ⟨Int.fmod_nonneg_of_pos _ (by decide), Int.fmod_lt_of_pos _ (by decide)⟩
  refine wpAny_execs_cons (wpAny_If (isTrue_or (wpAny_isTrue_Compare1 (nm_loc hn₂ rfl (wpAny_Constant_int (eq_int (wpAny_truthy_bool ?_)))))))
  refine Eq.mpr (if_neg (beq_neg (fun z : n.fmod 7 = 0 => absurd (hkind.symm.trans z) (by decide)))) (isTrue_or (wpAny_isTrue_Compare1 (nm_loc hn₂ rfl (wpAny_Constant_int (eq_int (wpAny_truthy_bool ?_))))))
  refine Eq.mpr (if_neg (beq_neg (fun z : n.fmod 7 = 3 => absurd (hkind.symm.trans z) (by decide)))) (isTrue_or_nil (Eq.mpr (if_neg Bool.false_ne_true) (wpAny_execs_nil ?_)))
  refine wpAny_execs_cons (wpAny_If (isTrue_or (wpAny_isTrue_Compare1 (nm_loc hn₂ rfl (wpAny_Constant_int (eq_int (wpAny_truthy_bool ?_)))))))
  refine Eq.mpr (if_pos (beq_pos hkind)) (Eq.mpr (if_pos rfl) ?_)
  refine wpAny_execs_cons (wpAny_Return_some (Tuple_ (spliced_more (wpAny_Constant_str (spliced_more (wpAny_Constant_str (spliced_none (wpAny_newTuple ?_))))))))
  exact fin (Kp.refl _) (Nat.le_refl _) (by decide +kernel)
theorem piece_k4 {n : Int} {t : Tok} {Q : Value → Shared → Prop} (hA : Room A) (B : Base w s.heap) (hkind : n.fmod 7 = 4)
    (hQ : ∀ T a b p h' tk, p ∈ pieces → Kp s.heap h' → s.heap.get? T = none → h'.IsTuple T #[.str p.1 a, .str p.2 b] → Q (.ref T) { s with heap := h', toks := tk }) :
    wpAny (model prog w) A (call (.ref 69) [.int n t]) Q E s := by
  refine call_fn hA B rfl rfl rfl rfl (by decide) (locs rfl) fun h₀ hn hk B₀ => ?_
  refine wpAny_execs_cons (wpAny_Assign_Name (wpAny_BinOp (nm_loc hn rfl (wpAny_Constant_int (mod_int (by decide) (st_loc hn fun h₁ hn₁ hs₁ => ?_))))))
  refine wpAny_execs_cons (wpAny_Assign_Name (wpAny_BinOp (nm_loc hn₁ rfl (wpAny_Constant_int (floordiv_int (by decide) (st_loc hn₁ fun h₂ hn₂ hs₂ => ?_))))))
  have low : ∀ b o, s.heap.get? b = some o → b ≠ s.heap.objs.size := fun b o e => Nat.ne_of_lt (Heap.lt_size e)
  have k₂ : Kp s.heap h₂ := fun b o e => hs₂.extBut b o (low b o e) (hs₁.extBut b o (low b o e) (hk b o e))
  have hz : s.heap.objs.size ≤ h₂.objs.size := Nat.le_of_lt hn₂.lt
  have fin : ∀ {x y : Str} {a b : Tok} {tk : Nat} {h : Heap}, Kp h₂ h → h₂.objs.size ≤ h.objs.size → (x, y) ∈ pieces → Q (.ref h.objs.size) { s with heap := h.push { cls := .type "tuple", data := .seq #[.str x a, .str y b] }, toks := tk } := fun {x y a b tk h} hk hz' hp =>
    hQ _ a b (x, y) _ _ hp (fun b o e => Heap.get?_push_of_some _ (hk b o (k₂ b o e))) (fresh_none (Nat.le_trans hz hz')) ⟨_, Heap.get?_push_size _ rfl, rfl, _, rfl⟩
  have r4 : 0 ≤ (n.fdiv 7).fmod 4 ∧ (n.fdiv 7).fmod 4 < 4 := ⟨Int.fmod_nonneg_of_pos _ (by decide), Int.fmod_lt_of_pos _ (by decide)⟩
  have r5 : 0 ≤ (n.fdiv 7).fmod 5 ∧ (n.fdiv 7).fmod 5 < 5 := ⟨Int.fmod_nonneg_of_pos _ (by decide), Int.fmod_lt_of_pos _ (by decide)⟩
  refine wpAny_execs_cons (wpAny_If (isTrue_or (wpAny_isTrue_Compare1 (nm_loc hn₂ rfl (wpAny_Constant_int (eq_int (wpAny_truthy_bool ?_)))))))
  refine Eq.mpr (if_neg (beq_neg (fun z : n.fmod 7 = 0 => absurd (hkind.symm.trans z) (by decide)))) (isTrue_or (wpAny_isTrue_Compare1 (nm_loc hn₂ rfl (wpAny_Constant_int (eq_int (wpAny_truthy_bool ?_))))))
  refine Eq.mpr (if_neg (beq_neg (fun z : n.fmod 7 = 3 => absurd (hkind.symm.trans z) (by decide)))) (isTrue_or_nil (Eq.mpr (if_neg Bool.false_ne_true) (wpAny_execs_nil ?_)))
  refine wpAny_execs_cons (wpAny_If (isTrue_or (wpAny_isTrue_Compare1 (nm_loc hn₂ rfl (wpAny_Constant_int (eq_int (wpAny_truthy_bool ?_)))))))
  refine Eq.mpr (if_neg (beq_neg (fun z : n.fmod 7 = 1 => absurd (hkind.symm.trans z) (by decide)))) (isTrue_or (wpAny_isTrue_Compare1 (nm_loc hn₂ rfl (wpAny_Constant_int (eq_int (wpAny_truthy_bool ?_))))))
  refine Eq.mpr (if_pos (beq_pos hkind)) (Eq.mpr (if_pos rfl) ?_)
  refine wpAny_execs_cons (wpAny_Return_some (Tuple_ (spliced_more (wpAny_Constant_str (spliced_more (wpAny_Constant_str (spliced_none (wpAny_newTuple ?_))))))))
  exact fin (Kp.refl _) (Nat.le_refl _) (by decide +kernel)
theorem piece_k2 {n : Int} {t : Tok} {Q : Value → Shared → Prop} (hA : Room A) (B : Base w s.heap) (hkind : n.fmod 7 = 2)
    (hQ : ∀ T a b p h' tk, p ∈ pieces → Kp s.heap h' → s.heap.get? T = none → h'.IsTuple T #[.str p.1 a, .str p.2 b] → Q (.ref T) { s with heap := h', toks := tk }) :
    wpAny (model prog w) A (call (.ref 69) [.int n t]) Q E s := by
  refine call_fn hA B rfl rfl rfl rfl (by decide) (locs rfl) fun h₀ hn hk B₀ => ?_
  refine wpAny_execs_cons (wpAny_Assign_Name (wpAny_BinOp (nm_loc hn rfl (wpAny_Constant_int (mod_int (by decide) (st_loc hn fun h₁ hn₁ hs₁ => ?_))))))
  refine wpAny_execs_cons (wpAny_Assign_Name (wpAny_BinOp (nm_loc hn₁ rfl (wpAny_Constant_int (floordiv_int (by decide) (st_loc hn₁ fun h₂ hn₂ hs₂ => ?_))))))
  have low : ∀ b o, s.heap.get? b = some o → b ≠ s.heap.objs.size := fun b o e => Nat.ne_of_lt (Heap.lt_size e)
  have k₂ : Kp s.heap h₂ := fun b o e => hs₂.extBut b o (low b o e) (hs₁.extBut b o (low b o e) (hk b o e))
  have hz : s.heap.objs.size ≤ h₂.objs.size := Nat.le_of_lt hn₂.lt
  have fin : ∀ {x y : Str} {a b : Tok} {tk : Nat} {h : Heap}, Kp h₂ h → h₂.objs.size ≤ h.objs.size → (x, y) ∈ pieces → Q (.ref h.objs.size) { s with heap := h.push { cls := .type "tuple", data := .seq #[.str x a, .str y b] }, toks := tk } := fun {x y a b tk h} hk hz' hp =>
    hQ _ a b (x, y) _ _ hp (fun b o e => Heap.get?_push_of_some _ (hk b o (k₂ b o e))) (fresh_none (Nat.le_trans hz hz')) ⟨_, Heap.get?_push_size _ rfl, rfl, _, rfl⟩
  have r4 : 0 ≤ (n.fdiv 7).fmod 4 ∧ (n.fdiv 7).fmod 4 < 4 := ⟨Int.fmod_nonneg_of_pos _ (by decide), Int.fmod_lt_of_pos _ (by decide)⟩
  have r5 : 0 ≤ (n.fdiv 7).fmod 5 ∧ (n.fdiv 7).fmod 5 < 5 := ⟨Int.fmod_nonneg_of_pos _ (by decide), Int.fmod_lt_of_pos _ (by decide)⟩
  refine wpAny_execs_cons (wpAny_If (isTrue_or (wpAny_isTrue_Compare1 (nm_loc hn₂ rfl (wpAny_Constant_int (eq_int (wpAny_truthy_bool ?_)))))))
  refine Eq.mpr (if_neg (beq_neg (fun z : n.fmod 7 = 0 => absurd (hkind.symm.trans z) (by decide)))) (isTrue_or (wpAny_isTrue_Compare1 (nm_loc hn₂ rfl (wpAny_Constant_int (eq_int (wpAny_truthy_bool ?_))))))
  refine Eq.mpr (if_neg (beq_neg (fun z : n.fmod 7 = 3 => absurd (hkind.symm.trans z) (by decide)))) (isTrue_or_nil (Eq.mpr (if_neg Bool.false_ne_true) (wpAny_execs_nil ?_)))
  refine wpAny_execs_cons (wpAny_If (isTrue_or (wpAny_isTrue_Compare1 (nm_loc hn₂ rfl (wpAny_Constant_int (eq_int (wpAny_truthy_bool ?_)))))))
  refine Eq.mpr (if_neg (beq_neg (fun z : n.fmod 7 = 1 => absurd (hkind.symm.trans z) (by decide)))) (isTrue_or (wpAny_isTrue_Compare1 (nm_loc hn₂ rfl (wpAny_Constant_int (eq_int (wpAny_truthy_bool ?_))))))
  refine Eq.mpr (if_neg (beq_neg (fun z : n.fmod 7 = 4 => absurd (hkind.symm.trans z) (by decide)))) (isTrue_or_nil (Eq.mpr (if_neg Bool.false_ne_true) (wpAny_execs_nil ?_)))
  refine wpAny_execs_cons (wpAny_If (wpAny_isTrue_Compare1 (nm_loc hn₂ rfl (wpAny_Constant_int (eq_int (wpAny_truthy_bool ?_))))))
  refine Eq.mpr (if_pos (beq_pos hkind)) ?_
  refine Exists.elim (idx_esc r4.1 r4.2) fun c hcp => ?_
  refine wpAny_execs_cons (wpAny_Return_some (Tuple_ (spliced_more (wpAny_BinOp (wpAny_Constant_str (Subscript_ (wpAny_Constant_str (wpAny_BinOp (nm_loc hn₂ rfl (wpAny_Constant_int (mod_int (by decide) ?_)))))))))))
  refine item_strT (c := c) (idx_ok r4.1 r4.2 (by decide)) hcp.1 (add_str (fun t₃ tk₃ => ?_) (len_esc c))
  refine spliced_more (wpAny_Constant_str (spliced_none (wpAny_newTuple ?_)))
  exact fin (Kp.refl _) (Nat.le_refl _) hcp.2
theorem piece_k5 {n : Int} {t : Tok} {Q : Value → Shared → Prop} (hA : Room A) (B : Base w s.heap) (hkind : n.fmod 7 = 5) {j : Nat} {y : Str} (q1 : seqIndex? ((n.fdiv 7).fmod 5) 5 = some j) (q2 : y.length ≤ 3) (q3 : (Str.ofString "\"" ++ y ++ Str.ofString "\"", Str.ofString "") ∈ pieces)
    (q4 : ∀ {a b c d e : Tok}, ∃ u : Tok, (#[.str (Str.ofString "(") a, .str (Str.ofString ")") b, .str (Str.ofString "") c, .str (Str.ofString "\\\")") d, .str (Str.ofString "))(") e] : Array Value)[j]? = some (.str y u))
    (hQ : ∀ T a b p h' tk, p ∈ pieces → Kp s.heap h' → s.heap.get? T = none → h'.IsTuple T #[.str p.1 a, .str p.2 b] → Q (.ref T) { s with heap := h', toks := tk }) :
    wpAny (model prog w) A (call (.ref 69) [.int n t]) Q E s := by
  refine call_fn hA B rfl rfl rfl rfl (by decide) (locs rfl) fun h₀ hn hk B₀ => ?_
  refine wpAny_execs_cons (wpAny_Assign_Name (wpAny_BinOp (nm_loc hn rfl (wpAny_Constant_int (mod_int (by decide) (st_loc hn fun h₁ hn₁ hs₁ => ?_))))))
  refine wpAny_execs_cons (wpAny_Assign_Name (wpAny_BinOp (nm_loc hn₁ rfl (wpAny_Constant_int (floordiv_int (by decide) (st_loc hn₁ fun h₂ hn₂ hs₂ => ?_))))))
  have low : ∀ b o, s.heap.get? b = some o → b ≠ s.heap.objs.size := fun b o e => Nat.ne_of_lt (Heap.lt_size e)
  have k₂ : Kp s.heap h₂ := fun b o e => hs₂.extBut b o (low b o e) (hs₁.extBut b o (low b o e) (hk b o e))
  have hz : s.heap.objs.size ≤ h₂.objs.size := Nat.le_of_lt hn₂.lt
  have fin : ∀ {x y : Str} {a b : Tok} {tk : Nat} {h : Heap}, Kp h₂ h → h₂.objs.size ≤ h.objs.size → (x, y) ∈ pieces → Q (.ref h.objs.size) { s with heap := h.push { cls := .type "tuple", data := .seq #[.str x a, .str y b] }, toks := tk } := fun {x y a b tk h} hk hz' hp =>
    hQ _ a b (x, y) _ _ hp (fun b o e => Heap.get?_push_of_some _ (hk b o (k₂ b o e))) (fresh_none (Nat.le_trans hz hz')) ⟨_, Heap.get?_push_size _ rfl, rfl, _, rfl⟩
  have r4 : 0 ≤ (n.fdiv 7).fmod 4 ∧ (n.fdiv 7).fmod 4 < 4 := ⟨Int.fmod_nonneg_of_pos _ (by decide), Int.fmod_lt_of_pos _ (by decide)⟩
  have r5 : 0 ≤ (n.fdiv 7).fmod 5 ∧ (n.fdiv 7).fmod 5 < 5 := ⟨Int.fmod_nonneg_of_pos _ (by decide), Int.fmod_lt_of_pos _ (by decide)⟩
  refine wpAny_execs_cons (wpAny_If (isTrue_or (wpAny_isTrue_Compare1 (nm_loc hn₂ rfl (wpAny_Constant_int (eq_int (wpAny_truthy_bool ?_)))))))
  refine Eq.mpr (if_neg (beq_neg (fun z : n.fmod 7 = 0 => absurd (hkind.symm.trans z) (by decide)))) (isTrue_or (wpAny_isTrue_Compare1 (nm_loc hn₂ rfl (wpAny_Constant_int (eq_int (wpAny_truthy_bool ?_))))))
  refine Eq.mpr (if_neg (beq_neg (fun z : n.fmod 7 = 3 => absurd (hkind.symm.trans z) (by decide)))) (isTrue_or_nil (Eq.mpr (if_neg Bool.false_ne_true) (wpAny_execs_nil ?_)))
  refine wpAny_execs_cons (wpAny_If (isTrue_or (wpAny_isTrue_Compare1 (nm_loc hn₂ rfl (wpAny_Constant_int (eq_int (wpAny_truthy_bool ?_)))))))
  refine Eq.mpr (if_neg (beq_neg (fun z : n.fmod 7 = 1 => absurd (hkind.symm.trans z) (by decide)))) (isTrue_or (wpAny_isTrue_Compare1 (nm_loc hn₂ rfl (wpAny_Constant_int (eq_int (wpAny_truthy_bool ?_))))))
  refine Eq.mpr (if_neg (beq_neg (fun z : n.fmod 7 = 4 => absurd (hkind.symm.trans z) (by decide)))) (isTrue_or_nil (Eq.mpr (if_neg Bool.false_ne_true) (wpAny_execs_nil ?_)))
  refine wpAny_execs_cons (wpAny_If (wpAny_isTrue_Compare1 (nm_loc hn₂ rfl (wpAny_Constant_int (eq_int (wpAny_truthy_bool ?_))))))
  refine Eq.mpr (if_neg (beq_neg (fun z : n.fmod 7 = 2 => absurd (hkind.symm.trans z) (by decide)))) (wpAny_execs_nil ?_)
  refine wpAny_execs_cons (wpAny_If (wpAny_isTrue_Compare1 (nm_loc hn₂ rfl (wpAny_Constant_int (eq_int (wpAny_truthy_bool ?_))))))
  refine Eq.mpr (if_pos (beq_pos hkind)) ?_
  refine wpAny_execs_cons ?_
  refine wpAny_Return_some ?_
  refine Tuple_ ?_
  refine spliced_more ?_
  refine wpAny_BinOp ?_
  refine wpAny_BinOp ?_
  refine wpAny_Constant_str ?_
  refine Subscript_ ?_
  refine Tuple_ ?_
  refine spliced_more (wpAny_Constant_str (spliced_more (wpAny_Constant_str (spliced_more (wpAny_Constant_str (spliced_more (wpAny_Constant_str (spliced_more (wpAny_Constant_str (spliced_none (wpAny_newTuple ?_)))))))))))
  refine wpAny_BinOp (nm_loc (hn₂.push _) rfl (wpAny_Constant_int (mod_int (by decide) ?_)))
  refine item_tupleE (j := j) (y := y) ⟨_, Heap.get?_push_size _ rfl, rfl, _, rfl⟩ (Int.le_trans (by decide) r5.1) (Int.lt_trans r5.2 (by decide)) q1 q4 fun u => ?_
  refine add_str (fun t₃ tk₃ => ?_) (len_q1 q2)
  refine wpAny_Constant_str (add_str (fun t₄ tk₄ => ?_) (len_q2 q2))
  refine spliced_more (wpAny_Constant_str (spliced_none (wpAny_newTuple ?_)))
  exact fin (fun b o e => Heap.get?_push_of_some _ e) (by rw [Heap.size_push]; exact Nat.le_succ _) q3
theorem piece_k6 {n : Int} {t : Tok} {Q : Value → Shared → Prop} (hA : Room A) (B : Base w s.heap) (hkind : n.fmod 7 = 6)
    (hQ : ∀ T a b p h' tk, p ∈ pieces → Kp s.heap h' → s.heap.get? T = none → h'.IsTuple T #[.str p.1 a, .str p.2 b] → Q (.ref T) { s with heap := h', toks := tk }) :
    wpAny (model prog w) A (call (.ref 69) [.int n t]) Q E s := by
  refine call_fn hA B rfl rfl rfl rfl (by decide) (locs rfl) fun h₀ hn hk B₀ => ?_
  refine wpAny_execs_cons (wpAny_Assign_Name (wpAny_BinOp (nm_loc hn rfl (wpAny_Constant_int (mod_int (by decide) (st_loc hn fun h₁ hn₁ hs₁ => ?_))))))
  refine wpAny_execs_cons (wpAny_Assign_Name (wpAny_BinOp (nm_loc hn₁ rfl (wpAny_Constant_int (floordiv_int (by decide) (st_loc hn₁ fun h₂ hn₂ hs₂ => ?_))))))
  have low : ∀ b o, s.heap.get? b = some o → b ≠ s.heap.objs.size := fun b o e => Nat.ne_of_lt (Heap.lt_size e)
  have k₂ : Kp s.heap h₂ := fun b o e => hs₂.extBut b o (low b o e) (hs₁.extBut b o (low b o e) (hk b o e))
  have hz : s.heap.objs.size ≤ h₂.objs.size := Nat.le_of_lt hn₂.lt
  have fin : ∀ {x y : Str} {a b : Tok} {tk : Nat} {h : Heap}, Kp h₂ h → h₂.objs.size ≤ h.objs.size → (x, y) ∈ pieces → Q (.ref h.objs.size) { s with heap := h.push { cls := .type "tuple", data := .seq #[.str x a, .str y b] }, toks := tk } := fun {x y a b tk h} hk hz' hp =>
    hQ _ a b (x, y) _ _ hp (fun b o e => Heap.get?_push_of_some _ (hk b o (k₂ b o e))) (fresh_none (Nat.le_trans hz hz')) ⟨_, Heap.get?_push_size _ rfl, rfl, _, rfl⟩
  have r4 : 0 ≤ (n.fdiv 7).fmod 4 ∧ (n.fdiv 7).fmod 4 < 4 := ⟨Int.fmod_nonneg_of_pos _ (by decide), Int.fmod_lt_of_pos _ (by decide)⟩
  have r5 : 0 ≤ (n.fdiv 7).fmod 5 ∧ (n.fdiv 7).fmod 5 < 5 := ⟨Int.fmod_nonneg_of_pos _ (by decide), Int.fmod_lt_of_pos _ (by decide)⟩
  refine wpAny_execs_cons (wpAny_If (isTrue_or (wpAny_isTrue_Compare1 (nm_loc hn₂ rfl (wpAny_Constant_int (eq_int (wpAny_truthy_bool ?_)))))))
  refine Eq.mpr (if_neg (beq_neg (fun z : n.fmod 7 = 0 => absurd (hkind.symm.trans z) (by decide)))) (isTrue_or (wpAny_isTrue_Compare1 (nm_loc hn₂ rfl (wpAny_Constant_int (eq_int (wpAny_truthy_bool ?_))))))
  refine Eq.mpr (if_neg (beq_neg (fun z : n.fmod 7 = 3 => absurd (hkind.symm.trans z) (by decide)))) (isTrue_or_nil (Eq.mpr (if_neg Bool.false_ne_true) (wpAny_execs_nil ?_)))
  refine wpAny_execs_cons (wpAny_If (isTrue_or (wpAny_isTrue_Compare1 (nm_loc hn₂ rfl (wpAny_Constant_int (eq_int (wpAny_truthy_bool ?_)))))))
  refine Eq.mpr (if_neg (beq_neg (fun z : n.fmod 7 = 1 => absurd (hkind.symm.trans z) (by decide)))) (isTrue_or (wpAny_isTrue_Compare1 (nm_loc hn₂ rfl (wpAny_Constant_int (eq_int (wpAny_truthy_bool ?_))))))
  refine Eq.mpr (if_neg (beq_neg (fun z : n.fmod 7 = 4 => absurd (hkind.symm.trans z) (by decide)))) (isTrue_or_nil (Eq.mpr (if_neg Bool.false_ne_true) (wpAny_execs_nil ?_)))
  refine wpAny_execs_cons (wpAny_If (wpAny_isTrue_Compare1 (nm_loc hn₂ rfl (wpAny_Constant_int (eq_int (wpAny_truthy_bool ?_))))))
  refine Eq.mpr (if_neg (beq_neg (fun z : n.fmod 7 = 2 => absurd (hkind.symm.trans z) (by decide)))) (wpAny_execs_nil ?_)
  refine wpAny_execs_cons (wpAny_If (wpAny_isTrue_Compare1 (nm_loc hn₂ rfl (wpAny_Constant_int (eq_int (wpAny_truthy_bool ?_))))))
  refine Eq.mpr (if_neg (beq_neg (fun z : n.fmod 7 = 5 => absurd (hkind.symm.trans z) (by decide)))) (wpAny_execs_nil ?_)
  refine Exists.elim (idx_plain r4.1 r4.2) fun c hcp => ?_
  refine wpAny_execs_cons (wpAny_Return_some (Tuple_ (spliced_more (Subscript_ (wpAny_Constant_str (wpAny_BinOp (nm_loc hn₂ rfl (wpAny_Constant_int (mod_int (by decide) ?_)))))))))
  refine item_strT (c := c) (idx_ok r4.1 r4.2 (by decide)) hcp.1 ?_
  refine spliced_more (wpAny_Constant_str (spliced_none (wpAny_newTuple ?_)))
  exact fin (Kp.refl _) (Nat.le_refl _) hcp.2
theorem law_piece {n : Int} {t : Tok} {Q : Value → Shared → Prop} (hA : Room A) (B : Base w s.heap)
    (hQ : ∀ T a b p h' tk, p ∈ pieces → Kp s.heap h' → s.heap.get? T = none → h'.IsTuple T #[.str p.1 a, .str p.2 b] → Q (.ref T) { s with heap := h', toks := tk }) :
    wpAny (model prog w) A (call (.ref 69) [.int n t]) Q E s := by
  have m0 : 0 ≤ n.fmod 7 := Int.fmod_nonneg_of_pos n (by decide)
  have m7 : n.fmod 7 < 7 := Int.fmod_lt_of_pos n (by decide)
  have : n.fmod 7 = 0 ∨ n.fmod 7 = 1 ∨ n.fmod 7 = 2 ∨ n.fmod 7 = 3 ∨ n.fmod 7 = 4 ∨ n.fmod 7 = 5 ∨ n.fmod 7 = 6 := by omega
  rcases this with h | h | h | h | h | h | h
  · exact piece_k0 hA B h hQ
  · exact piece_k1 hA B h hQ
  · exact piece_k2 hA B h hQ
  · exact piece_k3 hA B h hQ
  · exact piece_k4 hA B h hQ
  · obtain ⟨j, y, q1, q2, q3, q4⟩ := idx_quot (k := (n.fdiv 7).fmod 5) (Int.fmod_nonneg_of_pos _ (by decide)) (Int.fmod_lt_of_pos _ (by decide))
    exact piece_k5 hA B h q1 q2 q3 q4 hQ
  · exact piece_k6 hA B h hQ
end
end Mine
end

-- M23
section
open PySem PySem.W PySem.W.X PyProof.Rows PySem.Spec PySem.SeqAt PyProof.V
namespace Mine
open Sem (wp)

theorem slicePick_ints {items : Array Value} {lo hi st : Option Int} (h : AllInts items) : AllInts (slicePick items lo hi st) := by
  intro v hv
  unfold slicePick at hv
  rw [List.mem_toArray, List.mem_filterMap] at hv
  obtain ⟨i, _, e⟩ := hv
  exact h v (Array.mem_of_getElem? e)
theorem insert_list (vs : List Value) (y : Value) (k : Nat) : (vs.toArray.extract 0 k).push y ++ vs.toArray.extract k = (vs.take k ++ y :: vs.drop k).toArray := by
  apply Array.ext'
  simp
  rw [List.take_of_length_le (l := vs.drop k) (by rw [List.length_drop]; exact Nat.le_refl _)]
theorem TupsAre.insert {h : Heap} {vs : List Value} {ps : List (Str × Str)} {T : Addr} {a b : Tok} {p : Str × Str} (x : TupsAre h vs ps) (hT : h.IsTuple T #[.str p.1 a, .str p.2 b]) (k : Nat) : TupsAre h (vs.take k ++ .ref T :: vs.drop k) (ps.take k ++ p :: ps.drop k) :=
  (x.take k).append (.cons hT (x.drop k))
section
variable {prog : Program} {w : World} {A : Around} {E : Value → Shared → Prop} {s : Shared} {env : Env}
theorem slice_any {value slice : Expr} {l : Addr} {items : Array Value} {vl vu vk : Value} {lo hi st : Option Int} {ops : List Value} {Q : Value → Shared → Prop} (hl : s.heap.IsList l items) (pl : IsPart vl lo) (pu : IsPart vu hi) (pk : IsPart vk st) (h0 : st ≠ some 0)
    (h : Q (.ref (s.heap.objs.size + 1)) { s with heap := (s.heap.push { cls := .type "slice", data := .fields #[vl, vu, vk] }).push { cls := .type "list", data := .seq (slicePick items lo hi st) } })
    (hsz : items.size ≤ sizeLine)
    (hs : subscripted slice false (.ref l) (.ref s.heap.objs.size) = operate ops (getItem (.ref l) (.ref s.heap.objs.size)) := by with_unfolding_all rfl) :
    wpAny (model prog w) A (subscriptTail value slice (.ref l) (.ref s.heap.objs.size)) Q E { s with heap := s.heap.push { cls := .type "slice", data := .fields #[vl, vu, vk] } } := by
  have hT := Heap.IsList.typeIs (s := { s with heap := s.heap.push { cls := .type "slice", data := .fields #[vl, vu, vk] } }) (hl.push _)
  unfold subscriptTail
  refine wpAny_bind ?_
  rw [getitemInPython_of_ne hT.not_modules]
  refine wpAny_bind (wpAny_specialOf hT list_getitem_lookup ?_)
  have fin : wpAny (model prog w) A (subscripted slice false (.ref l) (.ref s.heap.objs.size)) (fun r s₃ => wpAny (model prog w) A (letTemporaryGo value (.ref l) r >>= fun _ => pure r) Q E s₃) E { s with heap := s.heap.push { cls := .type "slice", data := .fields #[vl, vu, vk] } } := by
    rw [hs]
    refine wpAny_operating (wpAny_getItem_list_slice (hl.push _) (Heap.IsSliceOf.new ..) pl pu pk h0 (wpAny_bind (wpAny_letTemporaryGo (wpAny_pure ?_))) hsz)
    show Q (.ref (s.heap.push _).objs.size) _
    rw [Heap.size_push]
    exact h
  first
    | exact wpAny_pure (wpAny_bind fin)
    | exact wpAny_bind (wpAny_pure (wpAny_bind fin))
    | exact wpAny_bind fin
theorem gm_insert {l : Addr} {items : Array Value} {pl : Sem Bool} {Q : Value × List Value → Shared → Prop} (hl : s.heap.PlainList l items) (h : Q (.builtin "list.insert", [.ref l]) s) :
    wpAny (model prog w) A (getMethod (.ref l) "insert" pl) Q E s := by
  have hl' := hl.isList
  obtain ⟨n, e⟩ := hl
  exact getMethod_list_of F.slot_list_insert F.type_list_insert hl' ⟨_, e, rfl⟩ h
theorem list_insert {l : Addr} {vs : List Value} {k : Int} {u : Tok} {y : Value} {Q : Value → Shared → Prop} (hl : s.heap.PlainList l vs.toArray) (h0 : 0 ≤ k) (h1 : k < 100) (hsz : vs.toArray.size ≤ sizeLine)
    (hQ : ∀ h', h'.PlainList l (vs.take (min k.toNat vs.length) ++ y :: vs.drop (min k.toNat vs.length)).toArray → Heap.SameBut l s.heap h' → Q .none { s with heap := h' }) :
    wpAny (model prog w) A (call (.builtin "list.insert") [.ref l, .int k u, y]) Q E s := by
  have hT : s.TypeIs (.ref l) "list" := hl.isList.typeIs
  obtain ⟨n, e⟩ := hl
  have hfit : ¬(!Builtin.List.listFitsIndex k) = true := by
    have : Builtin.List.listFitsIndex k = true := by simp only [Builtin.List.listFitsIndex, Bool.and_eq_true, decide_eq_true_eq]; omega
    rw [this]; decide
  refine call_meets F.slot_list_insert hT F.entry_list_insert (F.args_list_insert_3 _ _ _) (AutoSeq1.list_insert_list_int_val_1 l vs.toArray n k u y hfit hsz) ⟨e, ?_⟩
  have hk : ¬ k < 0 := by omega
  have key : (s.heap.update l (Obj.mapSeq fun xs => have k := if k < 0 then (k + (xs.size : Int)).toNat else min k.toNat xs.size; (xs.extract 0 k).push y ++ xs.extract k)).PlainList l (vs.take (min k.toNat vs.length) ++ y :: vs.drop (min k.toNat vs.length)).toArray := by
    have e3 : Obj.mapSeq (fun xs => have k := if k < 0 then (k + (xs.size : Int)).toNat else min k.toNat xs.size; (xs.extract 0 k).push y ++ xs.extract k) { cls := .type "list", data := .seq vs.toArray n } =
        { cls := .type "list", data := .seq (vs.take (min k.toNat vs.length) ++ y :: vs.drop (min k.toNat vs.length)).toArray (if (vs.take (min k.toNat vs.length) ++ y :: vs.drop (min k.toNat vs.length)).toArray.size == vs.toArray.size then n else n + 1) } := by
      simp only [Obj.mapSeq, hk, if_false]
      rw [show min k.toNat vs.toArray.size = min k.toNat vs.length by rw [List.size_toArray], insert_list]
    have e4 := Heap.get?_update_self (Obj.mapSeq (fun xs => have k := if k < 0 then (k + (xs.size : Int)).toNat else min k.toNat xs.size; (xs.extract 0 k).push y ++ xs.extract k)) e rfl
    rw [e3] at e4
    exact ⟨_, e4⟩
  exact hQ _ key (Heap.SameBut.update ..)
theorem min_two' {a b : Int} {t u : Tok} {Q : Value → Shared → Prop} (hh : A.handled = none)
    (h : ∀ q t' h' tk, q = (if b < a then b else a) → Kp s.heap h' → Q (.int q t') { s with heap := h', toks := tk }) :
    wpAny (model prog w) A (call (.builtin "min") [.int a t, .int b u]) Q E s := by
  refine min_two_ints hh fun h' tk k => ?_
  by_cases q : b < a
  · rw [if_pos q]
    exact h b u h' tk (by rw [if_pos q]) k
  · rw [if_neg q]
    exact h a t h' tk (by rw [if_neg q]) k
theorem sum_any {l : Addr} {items : Array Value} {Q : Value → Shared → Prop} (hh : A.handled = none) (hl : s.heap.IsList l items) (hi : AllInts items)
    (h : ∀ n t h' tk, Kp s.heap h' → Q (.int n t) { s with heap := h', toks := tk }) : wpAny (model prog w) A (call (.builtin "sum") [.ref l]) Q E s := by
  obtain ⟨xs, rfl⟩ := hi.items
  exact sum_intListG hh hl fun h' tk t' k => h _ t' h' tk k
theorem new_tup {x y : Value} {Q : Value → Shared → Prop} (h : ∀ T h', Kp s.heap h' → s.heap.get? T = none → h'.IsTuple T #[x, y] → Q (.ref T) { s with heap := h' }) : wpAny (model prog w) A (newTuple [x, y]) Q E s :=
  wpAny_newTuple (h _ _ (fun b o e => Heap.get?_push_of_some _ e) (fresh_none (Nat.le_refl _)) ⟨_, Heap.get?_push_size _ rfl, rfl, _, rfl⟩)
theorem new_list {vs : List Value} {Q : Value → Shared → Prop} (hsz : vs.length ≤ 64) (h : ∀ l h', Kp s.heap h' → s.heap.get? l = none → h'.PlainList l vs.toArray → Q (.ref l) { s with heap := h' }) : wpAny (model prog w) A (newList vs) Q E s :=
  wpAny_newObj_type (h _ _ (fun b o e => Heap.get?_push_of_some _ e) (fresh_none (Nat.le_refl _)) ⟨0, Heap.get?_push_size _ rfl⟩) (Nat.le_trans (by simpa using hsz : vs.toArray.size ≤ 64) (by decide))
theorem call_to {pos : Pos} {f : Addr} {oc : Value} {od : Option Addr} {osl : Array (Option Value)} {fd : FuncData} {e : Expr} {rest : List Expr} {Q : Value → Shared → Prop} (ho : (Mine.hd.heap_39 w.params).lookup f = some ⟨oc, od, .func fd, osl⟩)
    (h : wpAny (model prog w) A (spliced (backTo pos (starEach (e :: rest) env))) (fun vs s₁ => Base w s₁.heap ∧ wpAny (model prog w) A (call (.ref f) vs) Q E s₁) E s)
    (he : starEach (e :: rest) env = (false, eval e env) :: starEach rest env := by rfl) :
    wpAny (model prog w) A (callWith pos (.ref f) [] (backTo pos (starEach (e :: rest) env)) []) Q E s :=
  callWith_def (o := ⟨oc, od, .func fd, osl⟩) rfl (wpAny_mono h (fun vs s₁ x => ⟨x.1.k f _ ho, x.2⟩) fun _ _ x => x) he
end
end Mine
end

-- M24
section
open PySem PySem.W PySem.W.X PyProof.Rows PySem.Spec PySem.SeqAt PyProof.V
namespace Mine
open Sem (wp)

structure RSt (s : Shared) (L r sc : Addr) (n : Nat) (m : Str → Option Value) (h : Heap) : Prop where
  kp : Kp s.heap h
  ns : h.Ns L m
  mr : m "row" = some (.ref r)
  msc : m "script" = some (.ref sc)
  row : ∃ vs ps, h.PlainList r vs.toArray ∧ TupsAre h vs ps ∧ (∀ p ∈ ps, p ∈ pieces) ∧ ps.length = n
section
variable {s : Shared} {L r sc : Addr} {n : Nat} {m m' : Str → Option Value} {h h' : Heap}
theorem Kp.but {X : Addr} (x : Kp s.heap h) (hX : s.heap.get? X = none) (hs : Heap.ExtBut X h h') : Kp s.heap h' := fun b o e => hs b o (fun q => by rw [q, hX] at e; cases e) (x b o e)
theorem RSt.grow (x : RSt s L r sc n m h) (k : Kp h h') : RSt s L r sc n m h' :=
  ⟨x.kp.trans k, x.ns.keeps k, x.mr, x.msc, let ⟨vs, ps, h1, h2, h3⟩ := x.row; ⟨vs, ps, h1.at fun o e => k _ o e, h2.to fun T vs ht => IsTuple.keep ht fun o e => k _ o e, h3⟩⟩
theorem RSt.store {y : Str} {v : Option Value} (x : RSt s L r sc n m h) (nL : s.heap.get? L = none) (hs : Heap.SameBut L h h') (hn : h'.Ns L (fun z => if z = y then v else m z)) (h1 : Str.ofString "row" ≠ y := by decide) (h2 : Str.ofString "script" ≠ y := by decide) :
    RSt s L r sc n (fun z => if z = y then v else m z) h' :=
  ⟨x.kp.but nL hs.extBut, hn, (if_neg h1).trans x.mr, (if_neg h2).trans x.msc, let ⟨vs, ps, q1, q2, q3⟩ := x.row; ⟨vs, ps, q1.extBut hs.extBut (list_ne_ns q1.isList x.ns), q2.to fun T vs ht => IsTuple.but ht hs.extBut (tup_ne_ns ht x.ns), q3⟩⟩
theorem tup_ne_range {h : Heap} {a I : Addr} {vs : Array Value} {x l c : Int} (k : h.IsTuple a vs) (y : IsRangeIter h I x l c) : a ≠ I := by
  obtain ⟨o, ho, hc, n, hd⟩ := k
  exact ne_of_data ho y (by rw [hd]; intro q; cases q)
theorem RSt.iter {I : Addr} {a b c : Int} (x : RSt s L r sc n m h) (nI : s.heap.get? I = none) (it : IsRangeIter h I a b c) (hs : Heap.ExtBut I h h') : RSt s L r sc n m h' :=
  ⟨x.kp.but nI hs, x.ns.at' fun o e => hs _ o (ns_ne_range x.ns it) e, x.mr, x.msc, let ⟨vs, ps, q1, q2, q3⟩ := x.row; ⟨vs, ps, q1.extBut hs (list_ne_range q1.isList it), q2.to fun T vs ht => IsTuple.but ht hs (tup_ne_range ht it), q3⟩⟩
end
section
variable {prog : Program} {w : World} {A : Around} {E : Value → Shared → Prop} {s : Shared} {env : Env}
theorem law_row {sc : Addr} {ivs : List Value} {Q : Value → Shared → Prop} (hA : Room A) (hd : A.depth < 780) (hu : A.units < 3800) (B : Base w s.heap) (hsc : s.heap.IsList sc ivs.toArray) (hi : AllInts ivs.toArray) (h64 : ivs.length < 64)
    (hQ : ∀ r vs ps h' tk, Kp s.heap h' → s.heap.get? r = none → h'.PlainList r vs.toArray → TupsAre h' vs ps → (∀ p ∈ ps, p ∈ pieces) → ps.length ≤ 9 → Q (.ref r) { s with heap := h', toks := tk }) :
    wpAny (model prog w) A (call (.ref 76) [.ref sc]) Q E s := by
  have hsz : ivs.toArray.size ≤ sizeLine := Nat.le_trans (by simpa using Nat.le_of_lt h64 : ivs.toArray.size ≤ 64) (by decide)
  have nL : s.heap.get? s.heap.objs.size = none := fresh_none (Nat.le_refl _)
  refine call_fn hA B rfl rfl rfl rfl (by decide) (locs rfl) ?_
  intro h₀ hn hk B₀
  refine wpAny_execs_cons ?_
  refine wpAny_Assign_Name ?_
  refine List_ ?_
  refine spliced_more ?_
  refine Tuple_ ?_
  refine spliced_more ?_
  refine wpAny_Constant_str ?_
  refine spliced_more ?_
  refine wpAny_Constant_str ?_
  refine spliced_none ?_
  refine new_tup ?_
  intro T1 h1 k1 n1 t1
  refine spliced_more ?_
  refine Tuple_ ?_
  refine spliced_more ?_
  refine wpAny_Constant_str ?_
  refine spliced_more ?_
  refine wpAny_Constant_str ?_
  refine spliced_none ?_
  refine new_tup ?_
  intro T2 h2 k2 n2 t2
  refine spliced_more ?_
  refine Tuple_ ?_
  refine spliced_more ?_
  refine wpAny_Constant_str ?_
  refine spliced_more ?_
  refine wpAny_Constant_str ?_
  refine spliced_none ?_
  refine new_tup ?_
  intro T3 h3 k3 n3 t3
  refine spliced_more ?_
  refine Tuple_ ?_
  refine spliced_more ?_
  refine wpAny_Constant_str ?_
  refine spliced_more ?_
  refine wpAny_Constant_str ?_
  refine spliced_none ?_
  refine new_tup ?_
  intro T4 h4 k4 n4 t4
  refine spliced_more ?_
  refine Tuple_ ?_
  refine spliced_more ?_
  refine wpAny_Constant_str ?_
  refine spliced_more ?_
  refine wpAny_Constant_str ?_
  refine spliced_none ?_
  refine new_tup ?_
  intro T5 h5 k5 n5 t5
  refine spliced_more ?_
  refine Tuple_ ?_
  refine spliced_more ?_
  refine wpAny_Constant_str ?_
  refine spliced_more ?_
  refine wpAny_Constant_str ?_
  refine spliced_none ?_
  refine new_tup ?_
  intro T6 h6 k6 n6 t6
  refine spliced_none ?_
  refine new_list (Nat.le_of_ble_eq_true rfl) ?_
  intro r h7 k7 n7 l7
  have q6 : Kp h₀ h6 := k1.trans (k2.trans (k3.trans (k4.trans (k5.trans k6))))
  have q7 : Kp h₀ h7 := q6.trans k7
  have nr : s.heap.get? r = none := by
    cases e : s.heap.get? r with
    | none => rfl
    | some o => have := q6 _ _ (hk _ _ e); rw [n7] at this; cases this
  refine st_loc (hn.keeps q7) ?_
  intro h8 hn8 hs8
  have low : ∀ b o, s.heap.get? b = some o → b ≠ s.heap.objs.size := fun b o e => Nat.ne_of_lt (Heap.lt_size e)
  have up : ∀ {T : Addr} {us : Array Value}, h7.IsTuple T us → h8.IsTuple T us := fun x => IsTuple.but x hs8.extBut (tup_ne_ns x (hn.keeps q7))
  have X8 : RSt s s.heap.objs.size r sc 6 _ h8 := ⟨fun b o e => hs8.extBut b o (low b o e) (q7 b o (hk b o e)), hn8, if_pos rfl, rfl, _,
    [(Str.ofString "(", Str.ofString "("), (Str.ofString "(", Str.ofString "("), (Str.ofString "\")\"", Str.ofString ""), (Str.ofString ")", Str.ofString ")"), (Str.ofString ")", Str.ofString ")"), (Str.ofString "(", Str.ofString "(")],
    l7.extBut hs8.extBut (list_ne_ns l7.isList (hn.keeps q7)),
    .cons (up (IsTuple.keep t1 fun o e => k7 _ o (k6 _ o (k5 _ o (k4 _ o (k3 _ o (k2 _ o e))))))) (.cons (up (IsTuple.keep t2 fun o e => k7 _ o (k6 _ o (k5 _ o (k4 _ o (k3 _ o e)))))) (.cons (up (IsTuple.keep t3 fun o e => k7 _ o (k6 _ o (k5 _ o (k4 _ o e))))) (.cons (up (IsTuple.keep t4 fun o e => k7 _ o (k6 _ o (k5 _ o e)))) (.cons (up (IsTuple.keep t5 fun o e => k7 _ o (k6 _ o e))) (.cons (up (IsTuple.keep t6 fun o e => k7 _ o e)) .nil))))),
    by decide +kernel, rfl⟩
  have hfit : (ivs.toArray.size : Int) < 2 ^ 63 := by rw [List.size_toArray]; omega
  refine wpAny_execs_cons ?_
  refine wpAny_For ?_
  refine Call_ ?_
  refine nm_boot (B.keeps X8.kp) boot_range ?_
  refine PyProof.Rows.callWith_type1 ?_
  refine spliced_more ?_
  refine Call_ ?_
  refine nm_boot (B.keeps X8.kp) boot_min ?_
  refine PyProof.Rows.callWith_builtin1 ?_
  refine spliced_more ?_
  refine Call_ ?_
  refine nm_boot (B.keeps X8.kp) boot_len ?_
  refine PyProof.Rows.callWith_builtin1 ?_
  refine spliced_more ?_
  refine nm_loc hn8 rfl ?_
  refine spliced_none ?_
  refine len_list (X8.kp.list hsc) hfit ?_
  refine spliced_more ?_
  refine wpAny_Constant_int ?_
  refine spliced_none ?_
  refine min_two' hA.hh ?_
  intro q t9 h9 tk9 hq9 k9
  refine spliced_none ?_
  refine call_range_1 ?_
  have q0 : 0 ≤ q := by rw [hq9]; split <;> omega
  have q3 : q ≤ 3 := by rw [hq9]; split <;> omega
  refine wpAny_pyIter_range (IsRange.new ..) (small_one (by omega) (by omega) (by omega) (by omega)) ?_
  have hsz1 : Builtin.Range.rangeSize 0 q 1 = q - ((0 : Nat) : Int) := by rw [rangeSize_one]; split <;> omega
  refine forLoop_at (it' := h9.objs.size + 1) (by rw [Heap.size_push]) ?_
  have X9 := X8.grow k9
  have hLh : s.heap.objs.size < h9.objs.size := X9.ns.lt
  have nI : s.heap.get? (h9.objs.size + 1) = none := fresh_none (by omega)
  refine codeAny_forLoop_any (fun k s' => ∃ (i : Nat) (m : Str → Option Value) (h : Heap) (tk : Nat), k = 3 - i + 1 ∧ s' = { s with heap := h, toks := tk } ∧ RSt s s.heap.objs.size r sc (6 + i) m h ∧ IsRangeIter h (h9.objs.size + 1) i (q - (i : Nat)) 1 ∧ (i : Int) ≤ q) ?_ _
    ⟨0, _, _, _, rfl, rfl, X9.grow fun b o e => Heap.get?_push_of_some _ (Heap.get?_push_of_some _ e), push2_range _ _ hsz1, q0⟩
  rintro k s' ⟨i, m, h, tk, rfl, rfl, X, it, hi3⟩
  by_cases hlt : (i : Int) < q
  · skip
    refine wpAny_pyNext_range_item it (by omega) ?_
    intro h10 it10 hs10
    have X10 := X.iter nI it hs10.extBut
    refine wpAny_of_eq (a := ()) rfl ?_
    refine wpAny_assign_Name ?_
    refine st_loc X10.ns ?_
    intro h11 hn11 hs11
    have X11 := X10.store nL hs11 hn11
    have it11 : IsRangeIter h11 (h9.objs.size + 1) ((i : Int) + 1) (q - (i : Nat) - 1) 1 := hs11.extBut _ _ (Ne.symm (ns_ne_range X10.ns it10)) it10
    refine wpAny_execs_cons ?_
    refine wpAny_Assign_Name ?_
    refine Call_ ?_
    refine nm_boot (B.keeps X11.kp) boot_sum ?_
    refine PyProof.Rows.callWith_builtin1 ?_
    refine spliced_more ?_
    refine Subscript_ ?_
    refine nm_loc hn11 X11.msc ?_
    refine wpAny_Slice ?_
    refine evalPart_some_step ?_
    refine nm_loc hn11 (if_pos rfl) ?_
    refine evalPart_none_step ?_
    refine evalPart_some_step ?_
    refine wpAny_Constant_int ?_
    refine slice_any (lo := some (i : Int)) (hi := none) (st := some 3) (X11.kp.list hsc) (.int _ _) .none (.int _ _) (by decide) ?_ hsz
    refine spliced_none ?_
    refine sum_any hA.hh (push2_list _ _ rfl) (slicePick_ints hi) ?_
    intro num tn h12 tk12 k12
    have X12 := X11.grow (Kp.trans (fun b o e => Heap.get?_push_of_some _ (Heap.get?_push_of_some _ e)) k12)
    have it12 : IsRangeIter h12 (h9.objs.size + 1) ((i : Int) + 1) (q - (i : Nat) - 1) 1 := k12 _ _ (Heap.get?_push_of_some _ (Heap.get?_push_of_some _ it11))
    refine st_loc X12.ns ?_
    intro h13 hn13 hs13
    have X13 := X12.store nL hs13 hn13
    have it13 : IsRangeIter h13 (h9.objs.size + 1) ((i : Int) + 1) (q - (i : Nat) - 1) 1 := hs13.extBut _ _ (Ne.symm (ns_ne_range X12.ns it12)) it12
    refine wpAny_execs_cons ?_
    refine wpAny_Expr_any ?_
    refine Exists.elim X13.row ?_
    intro vs hvs
    refine Exists.elim hvs ?_
    intro ps hps
    have hlv : vs.length = 6 + i := by rw [hps.2.1.len]; exact hps.2.2.2
    have hi2 : i < 3 := by omega
    have hzv : vs.toArray.size = 6 + i := by rw [List.size_toArray]; exact hlv
    refine MethodCall_ ?_
    refine nm_loc hn13 X13.mr ?_
    refine gm_insert hps.1 ?_
    refine callWith_method1 ?_
    refine spliced_more ?_
    refine wpAny_BinOp ?_
    refine wpAny_BinOp ?_
    refine nm_loc hn13 (if_pos rfl) ?_
    refine wpAny_Constant_int ?_
    refine floordiv_int (by decide) ?_
    refine wpAny_BinOp ?_
    refine Call_ ?_
    refine nm_boot (B.keeps X13.kp) boot_len ?_
    refine PyProof.Rows.callWith_builtin1 ?_
    refine spliced_more ?_
    refine nm_loc hn13 X13.mr ?_
    refine spliced_none ?_
    refine len_list hps.1.isList (by rw [hzv]; omega) ?_
    refine wpAny_Constant_int ?_
    refine add_int ?_
    refine mod_int (by rw [hzv]; omega) ?_
    have d0 : 0 ≤ (num.fdiv 35).fmod ((vs.toArray.size : Int) + 1) := Int.fmod_nonneg_of_pos _ (by rw [hzv]; omega)
    have d1 : (num.fdiv 35).fmod ((vs.toArray.size : Int) + 1) < 100 := Int.lt_of_lt_of_le (Int.fmod_lt_of_pos _ (by rw [hzv]; omega)) (by rw [hzv]; omega)
    refine spliced_more ?_
    refine Call_ ?_
    refine nm_glob (B.keeps X13.kp) rfl ?_
    refine call_to rfl ?_
    refine spliced_more ?_
    refine nm_loc hn13 (if_pos rfl) ?_
    refine spliced_none ?_
    refine ⟨B.keeps X13.kp, ?_⟩
    refine law_piece (hA.deeper (by omega) (by omega)) (B.keeps X13.kp) ?_
    intro T ta tb p h14 tk14 hp k14 nT tT
    refine spliced_none ?_
    refine list_insert (hps.1.at fun o e => k14 _ o e) d0 d1 (by rw [hzv]; exact Nat.le_trans (show 6 + i ≤ 64 by omega) (by decide)) ?_
    intro h15 pl15 hs15
    refine wpAny_execs_nil ?_
    have X14 := X13.grow k14
    have hT14 : TupsAre h14 vs ps := hps.2.1.to fun T vs ht => IsTuple.keep ht fun o e => k14 _ o e
    have pl14 : h14.PlainList r vs.toArray := hps.1.at fun o e => k14 _ o e
    have hT15 := (hT14.insert tT (min ((num.fdiv 35).fmod ((vs.toArray.size : Int) + 1)).toNat vs.length)).to (h' := h15) fun T vs ht => IsTuple.but ht hs15.extBut (tup_ne_list ht pl14.isList)
    have hrL : r ≠ s.heap.objs.size := list_ne_ns pl14.isList X14.ns
    have pp : ∀ z ∈ ps.take (min ((num.fdiv 35).fmod ((vs.toArray.size : Int) + 1)).toNat vs.length) ++ p :: ps.drop (min ((num.fdiv 35).fmod ((vs.toArray.size : Int) + 1)).toNat vs.length), z ∈ pieces := fun z hz => by
      rcases List.mem_append.mp hz with h | h
      · exact hps.2.2.1 z (List.mem_of_mem_take h)
      · rcases List.mem_cons.mp h with h | h
        · rw [h]; exact hp
        · exact hps.2.2.1 z (List.mem_of_mem_drop h)
    have ll : (ps.take (min ((num.fdiv 35).fmod ((vs.toArray.size : Int) + 1)).toNat vs.length) ++ p :: ps.drop (min ((num.fdiv 35).fmod ((vs.toArray.size : Int) + 1)).toNat vs.length)).length = 6 + (i + 1) := by
      have := hps.2.2.2
      rw [List.length_append, List.length_cons, List.length_take, List.length_drop]
      omega
    have X15 : RSt s s.heap.objs.size r sc (6 + (i + 1)) _ h15 := ⟨X14.kp.but nr hs15.extBut, X14.ns.sameBut hs15 (Ne.symm hrL), X14.mr, X14.msc, _, _, pl15, hT15, pp, ll⟩
    have it14 : IsRangeIter h14 (h9.objs.size + 1) ((i : Int) + 1) (q - (i : Nat) - 1) 1 := k14 _ _ it13
    have it15 : IsRangeIter h15 (h9.objs.size + 1) ((i + 1 : Nat) : Int) (q - ((i + 1 : Nat) : Int)) 1 := by
      have ee : q - ((i + 1 : Nat) : Int) = q - (i : Nat) - 1 := by push_cast; omega
      rw [ee]
      exact hs15.extBut _ _ (Ne.symm (list_ne_range pl14.isList it14)) it14
    exact ⟨3 - (i + 1) + 1, by omega, i + 1, _, h15, _, rfl, rfl, X15, it15, by push_cast; omega⟩
  · refine wpAny_pyNext_range_end hA.hh it (by omega) ?_
    intro h10 he10
    refine wpAny_execs_nil ?_
    have X10 := X.iter nI it he10
    refine wpAny_execs_cons ?_
    refine wpAny_Return_some ?_
    refine nm_loc X10.ns X10.mr ?_
    obtain ⟨vs, ps, a1, a2, a3, a4⟩ := X10.row
    exact hQ r vs ps h10 _ X10.kp nr a1 a2 a3 (by omega)
end
end Mine
end

-- M25
section
open PySem PySem.W PySem.W.X PyProof.Rows PySem.Spec PySem.SeqAt PyProof.V
namespace Mine
open Sem (wp)

def GR (s s' : Shared) : Prop := (AllBare s.gens → AllBare s'.gens) ∧ s'.os = s.os
theorem GR.refl (s : Shared) : GR s s := ⟨id, rfl⟩
theorem GR.trans {s s' s'' : Shared} (x : GR s s') (y : GR s' s'') : GR s s'' := ⟨fun h => y.1 (x.1 h), y.2.trans x.2⟩
theorem GR.of_aft {s s' : Shared} (a : Aft s s') : GR s s' := ⟨fun h y hy => by
  obtain ⟨l, e, hl⟩ := a.gens
  rw [e] at hy
  rcases Array.mem_append.mp hy with q | q
  · exact h y q
  · exact hl y (by simpa using q), a.os⟩
/-- a source of pairs -/
structure Source (prog : Program) (w : World) (A : Around) {α : Type} (it : Addr) (V : α → Value → Value → Prop) (J : List Addr → List α → Shared → Prop) (old : Addr → Prop) : Prop where
  frame : ∀ own ys (s : Shared) h' tk, J own ys s → (∀ b o, b ∉ own → s.heap.get? b = some o → h'.get? b = some o) → J own ys { s with heap := h', toks := tk }
  step : ∀ own y ys (s : Shared) (Q : Option Value → Shared → Prop) (E : Value → Shared → Prop), J own (y :: ys) s → Base w s.heap → (∀ b ∈ own, ∃ o, s.heap.get? b = some o) →
    (∀ T v1 v2 s', s'.heap.IsTuple T #[v1, v2] → V y v1 v2 → (∀ b o, b ∈ own ∨ old b → s.heap.get? b = some o → s'.heap.get? b = some o) → J own ys s' → GR s s' → Q (some (.ref T)) s') → wpAny (model prog w) A (pyNext (.ref it)) Q E s
  done : ∀ own (s : Shared) (Q : Option Value → Shared → Prop) (E : Value → Shared → Prop), J own [] s → Base w s.heap → (∀ b ∈ own, ∃ o, s.heap.get? b = some o) →
    (∀ s', (∀ b o, b ∈ own ∨ old b → s.heap.get? b = some o → s'.heap.get? b = some o) → GR s s' → Q none s') → wpAny (model prog w) A (pyNext (.ref it)) Q E s
  go : ∀ own ys (s : Shared) (Q : Unit → Shared → Prop) (E : Value → Shared → Prop) elts k pos T, J own ys s → Q () s → wpAny (model prog w) A (letOwnedTupleGo (.Tuple elts k pos) (.ref it) (.ref T)) Q E s
  self : ∀ own ys (s : Shared) (Q : Value → Shared → Prop) (E : Value → Shared → Prop), J own ys s → Q (.ref it) s → wpAny (model prog w) A (pyIter (.ref it)) Q E s
section
variable {prog : Program} {w : World} {A : Around} {E : Value → Shared → Prop} {R : Result → Shared → Prop} {s : Shared}
theorem compLoop_go {elt target iter : Expr} {ifs : List Expr} {scope : Scope} {pos : Pos} {it acc : Value} {env : Env} (I : Nat → Shared → Prop)
    (turn : ∀ n s, I n s → wpAny (model prog w) A (pyNext it) (fun r s₁ => match r with
      | none => R (.ok .next) s₁
      | some v => wpAny (model prog w) A (letOwnedTupleGo target it v) (fun _ s₁' => wpAny (model prog w) A (assign target env v) (fun _ s₂ =>
          wpAny (model prog w) A (forIn ifs true fun c r => if r = true then do let ok ← isTrue c env (eval c env); pure (ForInStep.yield ok) else pure (ForInStep.yield r)) (fun ok s₃ =>
            if ok = true then wpAny (model prog w) A (eval elt env) (fun x s₄ =>
              wpAny (model prog w) A (call (.builtin "list.append") [acc, x]) (fun _ s₅ => ∃ m, m < n ∧ I m s₅) (notedBy (model prog w) A env fun e s' => R (.error e) s') s₄) (notedBy (model prog w) A env fun e s' => R (.error e) s') s₃
            else ∃ m, m < n ∧ I m s₃) (notedBy (model prog w) A env fun e s' => R (.error e) s') s₂) (notedBy (model prog w) A env fun e s' => R (.error e) s') s₁') (notedBy (model prog w) A env fun e s' => R (.error e) s') s₁) (notedBy (model prog w) A env fun e s' => R (.error e) s') s)
    (n : Nat) (h : I n s) :
    codeAny (model prog w) A (.compLoop (.ListComp elt [⟨target, iter, ifs, 0⟩] scope pos) 0 it acc env) R s := by
  refine codeAny_loop rfl I (fun n s hI => ?_) n h
  show wpAny _ A ((compTurn (.ListComp elt [⟨target, iter, ifs, 0⟩] scope pos) 0 it acc env).onRaise (fun x => do noteFrame x env; theTreesLotGoes x)) _ _ s
  refine wpAny_noted ?_
  rw [compTurn_list]
  refine wpAny_bind (wpAny_standAt (wpAny_bind (wpAny_mono (turn n s hI) (fun r s₁ h₁ => ?_) fun _ _ h' => h')))
  cases r with
  | none => exact wpAny_pure h₁
  | some v =>
    refine wpAny_bind (wpAny_mono h₁ (fun _ s₁' h₁ => ?_) fun _ _ h' => h')
    refine wpAny_bind (wpAny_mono h₁ (fun _ s₂ h₂ => wpAny_bind (wpAny_mono h₂ (fun ok s₃ h₃ => ?_) fun _ _ h' => h')) fun _ _ h' => h')
    cases ok with
    | false => exact wpAny_pure ⟨rfl, h₃⟩
    | true =>
      exact wpAny_bind (wpAny_bind (wpAny_mono h₃ (fun x s₄ h₄ => wpAny_bind (wpAny_mono h₄ (fun _ s₅ h₅ => wpAny_pure (wpAny_pure ⟨rfl, h₅⟩)) fun _ _ h' => h')) fun _ _ h' => h'))

theorem comp_block {α : Type} {elt iter : Expr} {x1 x2 : Str} {p1 p2 pt : Pos} {kt : Nat} {ifs : List Expr} {scope : Scope} {pos : Pos} {env : Env} {s₂ : Shared} {I : Addr} {V : α → Value → Value → Prop} {J : List Addr → List α → Shared → Prop} {old : Addr → Prop} {ys : List α}
    (S : Source prog w A I V J old) (p : α → Bool) (f : α → Str) {RR : Value → Addr → Result → Shared → Prop} (hh : A.handled = none) (hold : ∀ b, old b → ∃ o, s₂.heap.get? b = some o) (hbase : ∀ h, (∀ b o, old b → s₂.heap.get? b = some o → h.get? b = some o) → Base w h) (hlen : ys.length ≤ 1000)
    (hcell : ∀ y ∈ scope.names, y.2 ≠ .cell) (hkind : scope.kind = .function) (hx1 : scope.names.lookup x1 = some .local) (hx2 : scope.names.lookup x2 = some .local) (hne : x1 ≠ x2) (hst : ∀ own, (∀ b ∈ own, s₂.heap.get? b = none) → J own ys s₂)
    (tests : ∀ C (s : Shared) m y v1 v2 (E' : Value → Shared → Prop) (Q' : Bool → Shared → Prop), s.heap.Ns C m → m x1 = some v1 → m x2 = some v2 → V y v1 v2 → (∀ tk, Q' (p y) { s with toks := tk }) →
      wpAny (model prog w) A (forIn ifs true fun c r => if r = true then do let ok ← isTrue c (compEnvC scope [] C env) (eval c (compEnvC scope [] C env)); pure (ForInStep.yield ok) else pure (ForInStep.yield r)) Q' E' s)
    (helt : ∀ C (s : Shared) m y v1 v2 (E' : Value → Shared → Prop) (Q' : Value → Shared → Prop), s.heap.Ns C m → m x1 = some v1 → m x2 = some v2 → V y v1 v2 → (∀ t, Q' (.str (f y) t) s) → wpAny (model prog w) A (eval elt (compEnvC scope [] C env)) Q' E' s)
    (hRR : ∀ D C s' m' vs, s₂.heap.get? D = none → s₂.heap.get? C = none → D ≠ C → s'.heap.Ns C m' → s'.heap.PlainList D vs → StrsAre vs.toList ((ys.filter p).map f) → (∀ b o, old b → s₂.heap.get? b = some o → s'.heap.get? b = some o) → GR s₂ s' → RR (.ref D) C (.ok .next) s') :
    wpAny (model prog w) A (newList []) (fun acc s₃ => wpAny (model prog w) A (newFunctionEnv scope env.globals [] [] env.qual none .none (some env)) (fun cenv s₄ =>
      codeAny (model prog w) A (.compStart (.ListComp elt [⟨.Tuple [.Name x1 p1, .Name x2 p2] kt pt, iter, ifs, 0⟩] scope pos) 0 (.ref I) acc { cenv with scope := relabel scope env }) (RR acc cenv.locals) s₄) E s₃) E s₂ := by
  refine wpAny_newObj_type (wpAny_newFunctionEnv hcell (by intro y hy; simp at hy) (fun h₁ hns₁ hsb₁ => ?_) hkind)
  dsimp only at hns₁ hsb₁ ⊢
  generalize hH2 : s₂.heap.push { cls := .type "list", dict := none, data := .seq ([] : List Value).toArray } = H2 at hns₁ hsb₁ ⊢
  have hC : H2.objs.size = s₂.heap.objs.size + 1 := by rw [← hH2, Heap.size_push]
  have hDC : s₂.heap.objs.size ≠ H2.objs.size := by omega
  have nD : s₂.heap.get? s₂.heap.objs.size = none := fresh_none (Nat.le_refl _)
  have nC : s₂.heap.get? H2.objs.size = none := fresh_none (by omega)
  have oldk : Kp s₂.heap h₁ := fun b o e => hsb₁.extBut b o (fun q => by rw [q, nC] at e; cases e) (Heap.get?_push_of_some _ (hH2 ▸ Heap.get?_push_of_some _ e))
  have hacc : h₁.PlainList s₂.heap.objs.size #[] := ⟨_, hsb₁.extBut _ _ hDC (Heap.get?_push_of_some _ (hH2 ▸ Heap.get?_push_size _ rfl))⟩
  generalize s₂.heap.objs.size = D at *
  generalize H2.objs.size = C at *
  have hx1' : (compEnvC scope [] C env).kindOf x1 = some .local := lookup_relabel_local hx1
  have hx2' : (compEnvC scope [] C env).kindOf x2 = some .local := lookup_relabel_local hx2
  have hk' : (compEnvC scope [] C env).scope.kind = .function := by simp [compEnvC, relabel, hkind]
  have hJ0 : J [C, D] ys { s₂ with heap := h₁, toks := s₂.toks + ([] : List (Str × Value)).length } := S.frame _ _ _ _ _ (hst [C, D] (by simp [nC, nD])) fun b o _ e => oldk b o e
  have loop : codeAny (model prog w) A (.compLoop (.ListComp elt [⟨.Tuple [.Name x1 p1, .Name x2 p2] kt pt, iter, ifs, 0⟩] scope pos) 0 (.ref I) (.ref D) (compEnvC scope [] C env)) (RR (.ref D) C) { s₂ with heap := h₁, toks := s₂.toks + ([] : List (Str × Value)).length } := by
    refine compLoop_go (fun k s' => ∃ (zs : List α) (m' : Str → Option Value) (vs : Array Value) (ss : List Str), k = zs.length + 1 ∧ J [C, D] zs s' ∧ s'.heap.Ns C m' ∧ s'.heap.PlainList D vs ∧ StrsAre vs.toList ss ∧ ss ++ (zs.filter p).map f = (ys.filter p).map f ∧
      (∀ b o, old b → s₂.heap.get? b = some o → s'.heap.get? b = some o) ∧ GR s₂ s') ?_ _ ⟨ys, _, _, [], rfl, hJ0, hns₁, hacc, .nil, rfl, fun b o _ e => oldk b o e, ⟨id, rfl⟩⟩
    rintro k s' ⟨zs, m', vs, ss, rfl, hJ, hn, pl, hS, heq, hkeep, hgr⟩
    have B' := hbase _ hkeep
    have alive : ∀ b ∈ [C, D], ∃ o, s'.heap.get? b = some o := fun b hb => by
      rcases List.mem_cons.mp hb with rfl | hb
      · obtain ⟨o, _, _, e, _⟩ := hn; exact ⟨o, e⟩
      · rw [List.mem_singleton.mp hb]; obtain ⟨o, e, _⟩ := pl.isList; exact ⟨o, e⟩
    have oC : ∀ b, old b → b ≠ C := fun b hb q => by obtain ⟨o, e⟩ := hold b hb; rw [q, nC] at e; cases e
    have oD : ∀ b, old b → b ≠ D := fun b hb q => by obtain ⟨o, e⟩ := hold b hb; rw [q, nD] at e; cases e
    cases zs with
    | nil =>
      refine S.done [C, D] s' _ _ hJ B' alive ?_
      intro s₃ hk₃ hg₃
      refine hRR D C s₃ m' vs nD nC hDC (hn.at' fun o e => hk₃ _ o (.inl (.head _)) e) (pl.at fun o e => hk₃ _ o (.inl (by simp)) e) ?_ (fun b o hb e => hk₃ b o (.inr hb) (hkeep b o hb e)) (hgr.trans hg₃)
      have e2 : ss = (ys.filter p).map f := by simpa using heq
      rw [← e2]; exact hS
    | cons y zs =>
      refine S.step [C, D] y zs s' _ _ hJ B' alive ?_
      intro T v1 v2 s₃ hT hV hk₃ hJ₃ hg₃
      refine S.go [C, D] zs s₃ _ _ _ _ _ T hJ₃ ?_
      have hn₃ : s₃.heap.Ns C m' := hn.at' fun o e => hk₃ _ o (.inl (.head _)) e
      have pl₃ : s₃.heap.PlainList D vs := pl.at fun o e => hk₃ _ o (.inl (by simp)) e
      refine assign_pair (env := compEnvC scope [] C env) hh hT hn₃ (fun h₄ tk₄ hn₄ hk₄ => ?_) hk' hx1' hx2'
      have pl₄ : h₄.PlainList D vs := pl₃.at fun o e => hk₄ _ o hDC e
      have keep₄ : ∀ b o, old b → s₂.heap.get? b = some o → h₄.get? b = some o := fun b o hb e => hk₄ b o (oC b hb) (hk₃ b o (.inr hb) (hkeep b o hb e))
      refine tests C _ _ y v1 v2 _ _ hn₄ ((if_neg hne).trans (if_pos rfl)) (if_pos rfl) hV ?_
      intro tk₅
      have hJ₄ : ∀ tk, J [C, D] zs { s₃ with heap := h₄, toks := tk } := fun tk => S.frame _ _ _ _ _ hJ₃ fun b o hb e => hk₄ b o (fun q => hb (q ▸ List.mem_cons_self)) e
      cases hp : p y with
      | false =>
        refine Eq.mpr (if_neg Bool.false_ne_true) ⟨zs.length + 1, by simp, zs, _, vs, ss, rfl, hJ₄ _, hn₄, pl₄, hS, ?_, keep₄, hgr.trans hg₃⟩
        rw [← heq, List.filter_cons, hp]; rfl
      | true =>
        refine Eq.mpr (if_pos rfl) ?_
        refine helt C _ _ y v1 v2 _ _ hn₄ ((if_neg hne).trans (if_pos rfl)) (if_pos rfl) hV ?_
        intro t₆
        have hsz : vs.size ≤ sizeLine := by
          have h1 := strsAre_size hS
          have h2 := congrArg List.length heq
          rw [List.length_append, List.length_map, List.length_map] at h2
          have h3 := List.length_filter_le p ys
          exact Nat.le_trans (show vs.size ≤ 1000 by omega) (by decide)
        refine wpAny_list_append_plain pl₄ (fun h₆ hpl₆ hs₆ => ?_) hsz
        refine ⟨zs.length + 1, by simp, zs, _, vs.push _, ss ++ [f y], rfl, S.frame _ _ _ _ _ (hJ₄ _) fun b o hb e => hs₆.extBut b o (fun q => hb (q ▸ by simp)) e, hn₄.sameBut hs₆ (Ne.symm hDC), hpl₆, strsAre_push hS, ?_, fun b o hb e => hs₆.extBut b o (oD b hb) (keep₄ b o hb e), hgr.trans hg₃⟩
        rw [← heq, List.filter_cons, hp, if_pos rfl, List.map_cons, List.append_assoc]; rfl
  exact codeAny_compStart_list loop (S.self _ _ _ _ _ hJ0 loop)
end
end Mine
end

-- M26
section
open PySem PySem.W PySem.W.X PyProof.Rows PySem.Spec PySem.SeqAt PyProof.V
namespace Mine
open Sem (wp)

section
variable {prog : Program} {w : World} {A : Around} {E : Value → Shared → Prop}
def VStr (p : Str × Str) (v1 v2 : Value) : Prop := (∃ a b, v1 = .str p.1 a ∧ v2 = .str p.2 b) ∧ (p.2 = emp ∨ p.2 = op ∨ p.2 = cl)
def VInt (p : Nat × Str) (v1 v2 : Value) : Prop := ∃ a b, v1 = .int p.1 a ∧ v2 = .str p.2 b
/-- the rest of a row's list as a source -/
def JL (it r : Addr) (hb : Heap) (vs : List Value) (ps : List (Str × Str)) (own : List Addr) (ys : List (Str × Str)) (s : Shared) : Prop :=
  ∃ i, s.heap.IsListIter it r i ∧ ps.drop i = ys ∧ s.heap.IsList r vs.toArray ∧ TupsAre s.heap vs ps ∧ (∀ b ∈ own, hb.get? b = none) ∧ (∃ o, hb.get? it = some o) ∧ (∃ o, hb.get? r = some o) ∧ ∀ v ∈ vs, ∀ T, v = .ref T → ∃ o, hb.get? T = some o
theorem TupsAre.toM {h h' : Heap} {vs : List Value} {ps : List (Str × Str)} (x : TupsAre h vs ps) (k : ∀ T us, .ref T ∈ vs → h.IsTuple T us → h'.IsTuple T us) : TupsAre h' vs ps := by
  induction x with
  | nil => exact .nil
  | cons a _ ih => exact .cons (k _ _ (.head _) a) (ih fun T us hm ht => k T us (.tail _ hm) ht)
theorem src_list {it r : Addr} {hb : Heap} {vs : List Value} {ps : List (Str × Str)} (hh : A.handled = none) (hps : RowOk ps) : Source prog w A it VStr (JL it r hb vs ps) (fun b => b ≠ it ∧ ∃ o, hb.get? b = some o) where
  frame := by
    rintro own ys s h' tk ⟨i, a1, a2, a3, a4, a5, a6, a7, a8⟩ k
    have ni : ∀ b, (∃ o, hb.get? b = some o) → b ∉ own := fun b ⟨o, e⟩ hm => by rw [a5 b hm] at e; cases e
    refine ⟨i, a1.at fun o e => k _ o (ni _ a6) e, a2, a3.at fun o e => k _ o (ni _ a7) e, a4.toM fun T us hm ht => IsTuple.keep ht fun o e => k _ o (ni T (a8 _ hm T rfl)) e, a5, a6, a7, a8⟩
  step := by
    rintro own y ys s Q E ⟨i, a1, a2, a3, a4, a5, a6, a7, a8⟩ B alive hQ
    have hp : ps[i]? = some y := by
      have := List.head?_drop (l := ps) (i := i)
      rw [a2] at this; simpa using this.symm
    have hrest : ps.drop (i + 1) = ys := by rw [← List.tail_drop, a2]; rfl
    obtain ⟨T, ta, tb, hv, hT⟩ := a4.get hp
    have ni : it ∉ own := fun hm => by obtain ⟨o, e⟩ := a6; rw [a5 _ hm] at e; cases e
    refine wpAny_pyNext_list_item a1 a3 (by simpa using hv) ?_
    intro h' it' hs'
    refine hQ T _ _ _ (IsTuple.but hT hs'.extBut (tup_ne_iter hT a1)) ⟨⟨ta, tb, rfl, rfl⟩, hps y (List.mem_of_getElem? hp)⟩ (fun b o hb e => hs'.extBut b o (fun q => ?_) e) ⟨i + 1, it', hrest, a3.extBut hs'.extBut (list_ne_iter a3 a1), a4.to fun T us ht => IsTuple.but ht hs'.extBut (tup_ne_iter ht a1), a5, a6, a7, a8⟩ ⟨id, rfl⟩
    rcases hb with h | h
    · exact ni (q ▸ h)
    · exact h.1 q
  done := by
    rintro own s Q E ⟨i, a1, a2, a3, a4, a5, a6, a7, a8⟩ B alive hQ
    have hge : ps.length ≤ i := List.drop_eq_nil_iff.mp a2
    have ni : it ∉ own := fun hm => by obtain ⟨o, e⟩ := a6; rw [a5 _ hm] at e; cases e
    refine wpAny_pyNext_list_end hh a1 a3 (by rw [List.getElem?_toArray]; exact List.getElem?_eq_none (by rw [a4.len]; exact hge)) ?_
    intro h' he
    refine hQ _ (fun b o hb e => he b o (fun q => ?_) e) ⟨id, rfl⟩
    rcases hb with h | h
    · exact ni (q ▸ h)
    · exact h.1 q
  go := by
    rintro own ys s Q E elts k pos T ⟨i, a1, _⟩ hQ
    exact wpAny_letOwnedTupleGo_listiter a1 hQ
  self := by
    rintro own ys s Q E ⟨i, a1, _⟩ hQ
    exact wpAny_pyIter_listiter a1 hQ
/-- a generator under way as a source; hb: the heap ahead of its call -/
def JG (prog : Program) (w : World) (a : Addr) (g : Nat) (hb : Heap) (own : List Addr) (ys : List (Nat × Str)) (s : Shared) : Prop :=
  ∃ fp, GenAt prog w fp a g ys s ∧ a ∉ fp ∧ (∀ b ∈ fp, hb.get? b = none) ∧ (∀ b ∈ own, b ∉ fp ∧ hb.get? b = none) ∧ a ∉ own ∧ (∀ b o, hb.get? b = some o → ∃ o', s.heap.get? b = some o')
theorem allBare_set {gens : Array GenState} {g : Nat} {gs : GenState} (h : AllBare gens) (hb : gs.bare = true) : AllBare (gens.setIfInBounds g gs) := fun y hy => by
  rcases Array.mem_or_eq_of_mem_setIfInBounds hy with q | q
  · exact h y q
  · rw [q]; exact hb
theorem src_gen {a : Addr} {g : Nat} {hb : Heap} (hA : Room A) : Source prog w A a VInt (JG prog w a g hb) (fun b => ∃ o, hb.get? b = some o) where
  frame := by
    rintro own ys s h' tk ⟨fp, a1, a2, a3, a4, a5, a6⟩ k
    refine ⟨fp, a1.to (fun o e => k _ o a5 e) (fun b hb' o e => k b o (fun hm => (a4 b hm).1 hb') e), a2, a3, a4, a5, fun b o e => ?_⟩
    obtain ⟨o', e'⟩ := a6 b o e
    exact ⟨o', k b o' (fun hm => by rw [(a4 b hm).2] at e; cases e) e'⟩
  step := by
    rintro own y ys s Q E ⟨fp, a1, a2, a3, a4, a5, a6⟩ B alive hQ
    refine next_item hA B a1 a2 ?_
    intro T t u s' gs fp' hbr hT hTf hff hk hg ho G'
    refine hQ T _ _ s' hT ⟨t, u, rfl, rfl⟩ (fun b o hb' e => hk b o (fun hm => ?_) e) ⟨fp', G', ?_, ?_, ?_, a5, ?_⟩ ⟨fun h => by rw [hg]; exact allBare_set h hbr, ho⟩
    · rcases hb' with h | ⟨o', h⟩
      · exact (a4 b h).1 hm
      · rw [a3 b hm] at h; cases h
    · intro hm
      rcases hff a hm with h | h
      · exact a2 h
      · obtain ⟨o, _, _, e, _⟩ := a1.obj; rw [h] at e; cases e
    · intro b hm
      rcases hff b hm with h | h
      · exact a3 b h
      · cases e : hb.get? b with
        | none => rfl
        | some o => obtain ⟨o', e'⟩ := a6 b o e; rw [h] at e'; cases e'
    · intro b hbo
      refine ⟨fun hm => ?_, (a4 b hbo).2⟩
      rcases hff b hm with h | h
      · exact (a4 b hbo).1 h
      · obtain ⟨o, e⟩ := alive b hbo; rw [h] at e; cases e
    · intro b o e
      obtain ⟨o', e'⟩ := a6 b o e
      exact ⟨o', hk b o' (fun hm => by rw [a3 b hm] at e; cases e) e'⟩
  done := by
    rintro own s Q E ⟨fp, a1, a2, a3, a4, a5, a6⟩ B alive hQ
    refine next_done hA B a1 ?_
    intro s' gs hbr hk hg ho
    refine hQ s' (fun b o hb' e => hk b o (fun hm => ?_) e) ⟨fun h => by rw [hg]; exact allBare_set h hbr, ho⟩
    rcases hb' with h | ⟨o', h⟩
    · exact (a4 b h).1 hm
    · rw [a3 b hm] at h; cases h
  go := by
    rintro own ys s Q E elts k pos T ⟨fp, a1, _⟩ hQ
    exact go_gen a1.obj hQ
  self := by
    rintro own ys s Q E ⟨fp, a1, _⟩ hQ
    exact wpAny_pyIter_gen a1.obj hQ
end
end Mine
end

-- M27
section
open PySem PySem.W PySem.W.X PyProof.Rows PySem.Spec PySem.SeqAt PyProof.V
namespace Mine
open Sem (wp)

section
variable {prog : Program} {w : World} {A : Around} {E : Value → Shared → Prop} {s : Shared} {env : Env}
theorem assign_comp {elt : Expr} {g : Comprehension} {y : Str} {py : Pos} {scope : Scope} {pos spos : Pos} {Q : Flow → Shared → Prop} (hg : g.is_async = 0)
    (hsw : swapsWith (.ListComp elt [g] scope pos) (some (.Name y py)) spos.line env = pure true) (hclos : closureFor scope env = pure []) (hkind : scope.kind = .function)
    (hnames : ∀ z ∈ scope.names, z.2 = .local → scope.names.lookup z.1 = some .local)
    (h : wpAny (model prog w) A (eval g.iter env) (fun x s₁ => wpAny (model prog w) A (pyIter x) (fun it s₂ => wpAny (model prog w) A (newList []) (fun acc s₃ =>
      wpAny (model prog w) A (newFunctionEnv scope env.globals [] [] env.qual none .none (some env)) (fun cenv s₄ =>
        codeAny (model prog w) A (.compStart (.ListComp elt [g] scope pos) 0 it acc { cenv with scope := relabel scope env }) (compPost (model prog w) A E (some (assign (.Name y py) env)) (fun _ s' => Q .next s') acc cenv.locals) s₄) E s₃) E s₂) E s₁) E s)
    (hs : ∀ x, foldedSetIterable g.iter env x = pure x := by intro _; rfl) :
    wpAny (model prog w) A (exec (.Assign [.Name y py] (.ListComp elt [g] scope pos) spos) env) Q E s := by
  obtain ⟨target, iter, ifs, ia⟩ := g
  dsimp only at hg
  subst hg
  rw [exec_Assign_Name_used _ _ _ _ hsw]
  refine wpAny_bind (wpAny_standAt (wpAny_bind ?_))
  show wpAny _ A (do let _ ← comprehension (.ListComp elt [⟨target, iter, ifs, 0⟩] scope pos) scope env _ (newList []) false (eval iter env) (some (assign (.Name y py) env))) _ _ s
  exact wpAny_bind (wpAny_mono (wpAny_comprehension_free (use := some (assign (.Name y py) env)) (Q := fun _ s' => Q .next s') rfl hs hclos hkind hnames h) (fun _ s' hq => wpAny_pure (wpAny_pure hq)) fun _ _ e => e)
theorem eval_comp {elt : Expr} {g : Comprehension} {scope : Scope} {pos : Pos} {Q : Value → Shared → Prop} (hg : g.is_async = 0)
    (hclos : closureFor scope env = pure []) (hkind : scope.kind = .function)
    (hnames : ∀ z ∈ scope.names, z.2 = .local → scope.names.lookup z.1 = some .local)
    (h : wpAny (model prog w) A (eval g.iter env) (fun x s₁ => wpAny (model prog w) A (pyIter x) (fun it s₂ => wpAny (model prog w) A (newList []) (fun acc s₃ =>
      wpAny (model prog w) A (newFunctionEnv scope env.globals [] [] env.qual none .none (some env)) (fun cenv s₄ =>
        codeAny (model prog w) A (.compStart (.ListComp elt [g] scope pos) 0 it acc { cenv with scope := relabel scope env }) (compPost (model prog w) A E none Q acc cenv.locals) s₄) E s₃) E s₂) E s₁) E s)
    (hs : ∀ x, foldedSetIterable g.iter env x = pure x := by intro _; rfl) :
    wpAny (model prog w) A (eval (.ListComp elt [g] scope pos) env) Q E s := by
  obtain ⟨target, iter, ifs, ia⟩ := g
  dsimp only at hg
  subst hg
  rw [eval_ListComp]
  exact wpAny_comprehension_free (use := none) rfl hs hclos hkind hnames h
/-- behind a comprehension whose list is stored under y -/
theorem compPost_assign {y : Str} {py : Pos} {D C : Addr} {m m' : Str → Option Value} {Q : Shared → Prop} (hnL : s.heap.Ns env.locals m) (hnC : s.heap.Ns C m') (hLC : env.locals ≠ C) (hk : env.scope.kind = .function) (hy : env.kindOf y = some .local)
    (h : ∀ h₁ h₂ tk, Heap.SameBut env.locals s.heap h₁ → Heap.SameBut C h₁ h₂ → h₂.Ns env.locals (fun z => if z = y then some (.ref D) else m z) → Q { s with heap := h₂, toks := tk }) :
    compPost (model prog w) A E (some (assign (.Name y py) env)) (fun _ s' => Q s') (.ref D) C (.ok .next) s := by
  show wpAny _ A (assign (.Name y py) env (.ref D)) _ _ _
  refine wpAny_assign_Name (wpAny_storeName_local hy hnL (fun h₁ hn₁ hs₁ => ?_) (by rw [hk]; rfl))
  refine ⟨m', hnC.sameBut hs₁ (Ne.symm hLC), fun h₂ hs₂ => ?_⟩
  exact h h₁ h₂ _ hs₁ hs₂ (hn₁.sameBut hs₂ hLC)
end
section
variable {prog : Program} {w : World} {A : Around} {E : Value → Shared → Prop}
theorem blk_assign {α : Type} {elt iter : Expr} {x1 x2 : Str} {p1 p2 pt : Pos} {kt : Nat} {ifs : List Expr} {scope : Scope} {pos : Pos} {env : Env} {s₂ : Shared} {I : Addr} {V : α → Value → Value → Prop} {J : List Addr → List α → Shared → Prop} {old : Addr → Prop} {ys : List α} {y : Str} {py : Pos} {m : Str → Option Value} {Q : Shared → Prop}
    (S : Source prog w A I V J old) (p : α → Bool) (f : α → Str) (hh : A.handled = none) (hold : ∀ b, old b → ∃ o, s₂.heap.get? b = some o) (hbase : ∀ h, (∀ b o, old b → s₂.heap.get? b = some o → h.get? b = some o) → Base w h) (hlen : ys.length ≤ 1000)
    (hcell : ∀ y ∈ scope.names, y.2 ≠ .cell) (hkind : scope.kind = .function) (hx1 : scope.names.lookup x1 = some .local) (hx2 : scope.names.lookup x2 = some .local) (hne : x1 ≠ x2) (hst : ∀ own, (∀ b ∈ own, s₂.heap.get? b = none) → J own ys s₂)
    (tests : ∀ C (s : Shared) m y v1 v2 (E' : Value → Shared → Prop) (Q' : Bool → Shared → Prop), s.heap.Ns C m → m x1 = some v1 → m x2 = some v2 → V y v1 v2 → (∀ tk, Q' (p y) { s with toks := tk }) →
      wpAny (model prog w) A (forIn ifs true fun c r => if r = true then do let ok ← isTrue c (compEnvC scope [] C env) (eval c (compEnvC scope [] C env)); pure (ForInStep.yield ok) else pure (ForInStep.yield r)) Q' E' s)
    (helt : ∀ C (s : Shared) m y v1 v2 (E' : Value → Shared → Prop) (Q' : Value → Shared → Prop), s.heap.Ns C m → m x1 = some v1 → m x2 = some v2 → V y v1 v2 → (∀ t, Q' (.str (f y) t) s) → wpAny (model prog w) A (eval elt (compEnvC scope [] C env)) Q' E' s)
    (hoL : old env.locals) (hnL : s₂.heap.Ns env.locals m) (hkE : env.scope.kind = .function) (hy : env.kindOf y = some .local)
    (hfin : ∀ D s' vs tk h', s₂.heap.get? D = none → h'.PlainList D vs → StrsAre vs.toList ((ys.filter p).map f) → h'.Ns env.locals (fun z => if z = y then some (.ref D) else m z) →
      (∀ b o, b ≠ env.locals → old b → s₂.heap.get? b = some o → h'.get? b = some o) → GR s₂ s' → Q { s' with heap := h', toks := tk }) :
    wpAny (model prog w) A (newList []) (fun acc s₃ => wpAny (model prog w) A (newFunctionEnv scope env.globals [] [] env.qual none .none (some env)) (fun cenv s₄ =>
      codeAny (model prog w) A (.compStart (.ListComp elt [⟨.Tuple [.Name x1 p1, .Name x2 p2] kt pt, iter, ifs, 0⟩] scope pos) 0 (.ref I) acc { cenv with scope := relabel scope env }) (compPost (model prog w) A E (some (assign (.Name y py) env)) (fun _ s' => Q s') acc cenv.locals) s₄) E s₃) E s₂ := by
  refine comp_block (RR := fun acc C => compPost (model prog w) A E (some (assign (.Name y py) env)) (fun _ s' => Q s') acc C) S p f hh hold hbase hlen hcell hkind hx1 hx2 hne hst tests helt ?_
  intro D C s' m' vs nD nC hDC hnC pl hS hk gr
  have aL := hold _ hoL
  have hLC : env.locals ≠ C := fun q => by obtain ⟨o, e⟩ := aL; rw [q, nC] at e; cases e
  have hLD : env.locals ≠ D := fun q => by obtain ⟨o, e⟩ := aL; rw [q, nD] at e; cases e
  refine compPost_assign (hnL.at' fun o e => hk _ o hoL e) hnC hLC hkE hy ?_
  intro h₁ h₂ tk hs₁ hs₂ hn
  exact hfin D s' vs tk h₂ nD ((pl.extBut hs₁.extBut (Ne.symm hLD)).extBut hs₂.extBut hDC) hS hn (fun b o hb ho e => hs₂.extBut b o (fun q => by obtain ⟨o', e'⟩ := hold _ ho; rw [q, nC] at e'; cases e') (hs₁.extBut b o hb (hk b o ho e))) gr
theorem blk_eval {α : Type} {elt iter : Expr} {x1 x2 : Str} {p1 p2 pt : Pos} {kt : Nat} {ifs : List Expr} {scope : Scope} {pos : Pos} {env : Env} {s₂ : Shared} {I : Addr} {V : α → Value → Value → Prop} {J : List Addr → List α → Shared → Prop} {old : Addr → Prop} {ys : List α} {Q : Value → Shared → Prop}
    (S : Source prog w A I V J old) (p : α → Bool) (f : α → Str) (hh : A.handled = none) (hold : ∀ b, old b → ∃ o, s₂.heap.get? b = some o) (hbase : ∀ h, (∀ b o, old b → s₂.heap.get? b = some o → h.get? b = some o) → Base w h) (hlen : ys.length ≤ 1000)
    (hcell : ∀ y ∈ scope.names, y.2 ≠ .cell) (hkind : scope.kind = .function) (hx1 : scope.names.lookup x1 = some .local) (hx2 : scope.names.lookup x2 = some .local) (hne : x1 ≠ x2) (hst : ∀ own, (∀ b ∈ own, s₂.heap.get? b = none) → J own ys s₂)
    (tests : ∀ C (s : Shared) m y v1 v2 (E' : Value → Shared → Prop) (Q' : Bool → Shared → Prop), s.heap.Ns C m → m x1 = some v1 → m x2 = some v2 → V y v1 v2 → (∀ tk, Q' (p y) { s with toks := tk }) →
      wpAny (model prog w) A (forIn ifs true fun c r => if r = true then do let ok ← isTrue c (compEnvC scope [] C env) (eval c (compEnvC scope [] C env)); pure (ForInStep.yield ok) else pure (ForInStep.yield r)) Q' E' s)
    (helt : ∀ C (s : Shared) m y v1 v2 (E' : Value → Shared → Prop) (Q' : Value → Shared → Prop), s.heap.Ns C m → m x1 = some v1 → m x2 = some v2 → V y v1 v2 → (∀ t, Q' (.str (f y) t) s) → wpAny (model prog w) A (eval elt (compEnvC scope [] C env)) Q' E' s)
    (hfin : ∀ D s' vs h', s₂.heap.get? D = none → h'.PlainList D vs → StrsAre vs.toList ((ys.filter p).map f) → (∀ b o, old b → s₂.heap.get? b = some o → h'.get? b = some o) → GR s₂ s' → Q (.ref D) { s' with heap := h' }) :
    wpAny (model prog w) A (newList []) (fun acc s₃ => wpAny (model prog w) A (newFunctionEnv scope env.globals [] [] env.qual none .none (some env)) (fun cenv s₄ =>
      codeAny (model prog w) A (.compStart (.ListComp elt [⟨.Tuple [.Name x1 p1, .Name x2 p2] kt pt, iter, ifs, 0⟩] scope pos) 0 (.ref I) acc { cenv with scope := relabel scope env }) (compPost (model prog w) A E none Q acc cenv.locals) s₄) E s₃) E s₂ := by
  refine comp_block (RR := fun acc C => compPost (model prog w) A E none Q acc C) S p f hh hold hbase hlen hcell hkind hx1 hx2 hne hst tests helt ?_
  intro D C s' m' vs nD nC hDC hnC pl hS hk gr
  exact ⟨m', hnC, fun h' hs' => hfin D s' vs h' nD (pl.extBut hs'.extBut hDC) hS (fun b o ho e => hs'.extBut b o (fun q => by obtain ⟨o', e'⟩ := hold _ ho; rw [q, nC] at e'; cases e') (hk b o ho e)) gr⟩
theorem TupsAre.alive {h : Heap} {vs : List Value} {ps : List (Str × Str)} (x : TupsAre h vs ps) : ∀ v ∈ vs, ∀ T, v = .ref T → ∃ o, h.get? T = some o := by
  induction x with
  | nil => intro v hv; cases hv
  | cons a _ ih =>
    intro v hv T e
    rcases List.mem_cons.mp hv with q | q
    · rw [q] at e; cases e
      obtain ⟨o, ho, _⟩ := a
      exact ⟨o, ho⟩
    · exact ih v q T e
theorem JL_start {h : Heap} {r : Addr} {vs : List Value} {ps : List (Str × Str)} (pl : h.IsList r vs.toArray) (T : TupsAre h vs ps) {s₂ : Shared} (e : s₂.heap = h.push { cls := .type "list_iterator", data := .fields #[.ref r, .int 0 0] }) :
    ∀ own, (∀ b ∈ own, s₂.heap.get? b = none) → JL h.objs.size r s₂.heap vs ps own ps s₂ := by
  intro own ho
  have up : Kp h s₂.heap := fun b o q => by rw [e]; exact Heap.get?_push_of_some _ q
  refine ⟨0, ⟨_, by rw [e]; exact Heap.get?_push_size _ rfl, rfl, rfl⟩, rfl, up.list pl, T.to fun T us ht => IsTuple.keep ht fun o q => up _ o q, ho, ⟨_, by rw [e]; exact Heap.get?_push_size _ rfl⟩, ?_, ?_⟩
  · obtain ⟨o, q, _⟩ := pl; exact ⟨o, up _ _ q⟩
  · intro v hv T' q
    obtain ⟨o, q'⟩ := T.alive v hv T' q
    exact ⟨o, up _ _ q'⟩
end
def isBr (y : Nat × Str) : Bool := decide (y.2 = op) || decide (y.2 = cl)
def hasBr (p : Str × Str) : Bool := !decide (p.2 = emp)
structure PlainOk (ps : List (Str × Str)) : Prop where
  row : RowOk ps
  good : GoodText (Txt.join (Str.ofString "") (ps.map (·.1)))
  same : ((escGo 0 false (stripF (Txt.join (Str.ofString "") (ps.map (·.1)))).cps.toList).filter isBr).map (·.2) = (ps.filter hasBr).map (·.2)
  stretch : ∀ i j, i ≤ j → j < ps.length → StretchOk ps i j
  weight : ((ps.map (·.1)).map (·.length)).sum ≤ 1000
  slen : (stripF (Txt.join (Str.ofString "") (ps.map (·.1)))).cps.toList.length ≤ 1000
section
variable {prog : Program} {w : World} {A : Around} {E : Value → Shared → Prop} {s : Shared} {env : Env}
theorem law_spec {sc : Addr} {ivs : List Value} {Q : Value → Shared → Prop} (hA : Room A) (hd : A.depth < 700) (hu : A.units < 3000) (B : Base w s.heap) (hfr : A.frames = some []) (hsc : s.heap.IsList sc ivs.toArray) (hi : AllInts ivs.toArray) (h64 : ivs.length < 64) (hbare : AllBare s.gens)
    (hplain : ∀ ps : List (Str × Str), (∀ p ∈ ps, p ∈ pieces) → ps.length ≤ 9 → PlainOk ps)
    (hQ : ∀ s', Kp s.heap s'.heap → AllBare s'.gens → s'.os = s.os → Q (.bool true) s') :
    wpAny (model prog w) A (call (.ref 107) [.ref sc]) Q E s := by
  refine call_fn hA B rfl rfl rfl rfl (by decide) (locs rfl) ?_
  intro h₀ hn hk B₀
  have nL : s.heap.get? s.heap.objs.size = none := fresh_none (Nat.le_refl _)
  refine wpAny_execs_cons ?_
  refine wpAny_Assign_Name ?_
  refine Call_ ?_
  refine nm_glob B₀ rfl ?_
  refine call_to rfl ?_
  refine spliced_more ?_
  refine nm_loc hn rfl ?_
  refine spliced_none ?_
  refine ⟨B₀, ?_⟩
  refine law_row (hA.deeper (by omega) (by omega)) (by show A.depth + 1 < 780; omega) (by show A.units + 3 < 3800; omega) B₀ (Kp.list hk hsc) hi h64 ?_
  intro r vs ps h₁ tk₁ k₁ nr pl₁ T₁ hpc h9
  have hP := hplain ps hpc h9
  have hrs : s.heap.get? r = none := by
    cases e : s.heap.get? r with
    | none => rfl
    | some o => rw [hk _ _ e] at nr; cases nr
  refine st_loc (hn.keeps k₁) ?_
  intro h₂ hn₂ hs₂
  have K₂ : Kp s.heap h₂ := Kp.but (Kp.trans hk k₁) nL hs₂.extBut
  have pl₂ : h₂.PlainList r vs.toArray := pl₁.extBut hs₂.extBut (list_ne_ns pl₁.isList (hn.keeps k₁))
  have T₂ : TupsAre h₂ vs ps := T₁.to fun T us ht => IsTuple.but ht hs₂.extBut (tup_ne_ns ht (hn.keeps k₁))
  -- shown
  refine wpAny_execs_cons ?_
  refine assign_comp rfl rfl rfl rfl (by decide) ?_
  refine nm_loc hn₂ rfl ?_
  refine wpAny_pyIter_list pl₂.isList ?_
  have hL2 : s.heap.objs.size < h₂.objs.size := hn₂.lt
  have hiL : s.heap.objs.size ≠ h₂.objs.size := Nat.ne_of_lt hL2
  have hbase1 : ∀ (hx h : Heap), Kp s.heap hx → s.heap.objs.size < hx.objs.size → (∀ b o, (b ≠ hx.objs.size ∧ ∃ o, (hx.push { cls := .type "list_iterator", data := .fields #[.ref r, .int 0 0] }).get? b = some o) → (hx.push { cls := .type "list_iterator", data := .fields #[.ref r, .int 0 0] }).get? b = some o → h.get? b = some o) → Base w h := fun hx h kx hlt hk =>
    B.keeps fun b o e => hk b o ⟨(fun q => by rw [q, fresh_none (Nat.le_of_lt hlt)] at e; cases e), o, Heap.get?_push_of_some _ (kx b o e)⟩ (Heap.get?_push_of_some _ (kx b o e))
  have brTrue : ∀ {y : Str × Str}, (y.2 = emp ∨ y.2 = op ∨ y.2 = cl) → ((y.2.length : Int) != 0) = hasBr y := fun {y} h => by
    unfold hasBr
    rcases h with h | h | h <;> rw [h] <;> decide
  refine blk_assign (A := A.deeper _) (ys := ps) (src_list (r := r) (vs := vs) (hb := h₂.push { cls := .type "list_iterator", data := .fields #[.ref r, .int 0 0] }) hA.hh hP.row) hasBr (·.2) hA.hh ?_ ?_ ?_ ?_ ?_ ?_ ?_ ?_ ?_ ?_ ?_ ?_ (hn₂.push _) ?_ ?_ ?_
  · exact fun b hb => hb.2
  · exact fun h hk => hbase1 h₂ h K₂ hL2 hk
  · omega
  · decide
  · rfl
  · rfl
  · rfl
  · decide
  · exact JL_start pl₂.isList T₂ rfl
  · intro C s₃ m y v1 v2 E' Q' hC h1 h2 hV hq
    refine wpAny_tests_one ?_
    obtain ⟨⟨a, b, e1, e2⟩, hy⟩ := hV
    subst e2
    refine wpAny_isTrue_value ?_
    refine nm_loc hC h2 ?_
    refine P.truthy_str ?_ ?_
    · rcases hy with e | e | e <;> rw [e] <;> decide
    · rw [brTrue hy]; exact hq _
  · intro C s₃ m y v1 v2 E' Q' hC h1 h2 hV hq
    obtain ⟨⟨a, b, e1, e2⟩, hy⟩ := hV
    subst e2
    exact nm_loc hC h2 (hq b)
  · obtain ⟨o, _, _, e, _⟩ := hn₂.push { cls := .type "list_iterator", data := .fields #[.ref r, .int 0 0] }
    exact ⟨hiL, o, e⟩
  · rfl
  · rfl
  intro D1 s₃ vD1 tk₃ h₃ nD1 plD1 hS1 hn₃ hk₃ gr₃
  have up₃ : ∀ b o, b ≠ s.heap.objs.size → h₂.get? b = some o → h₃.get? b = some o := fun b o hb e => hk₃ b o hb ⟨Nat.ne_of_lt (Heap.lt_size e), o, Heap.get?_push_of_some _ e⟩ (Heap.get?_push_of_some _ e)
  have neL : ∀ b o, s.heap.get? b = some o → b ≠ s.heap.objs.size := fun b o e => Nat.ne_of_lt (Heap.lt_size e)
  have K₃ : Kp s.heap h₃ := fun b o e => up₃ b o (neL b o e) (K₂ b o e)
  have pl₃ : h₃.PlainList r vs.toArray := pl₂.at fun o e => up₃ _ o (list_ne_ns pl₂.isList hn₂) e
  have T₃ : TupsAre h₃ vs ps := T₂.to fun T us ht => IsTuple.keep ht fun o e => up₃ _ o (tup_ne_ns ht hn₂) e
  have hL3 : s.heap.objs.size < h₃.objs.size := hn₃.lt
  have hiL3 : s.heap.objs.size ≠ h₃.objs.size := Nat.ne_of_lt hL3
  refine wpAny_execs_cons ?_
  refine wpAny_Assign_Name ?_
  refine Call_ ?_
  refine nm_glob (B.keeps K₃) rfl ?_
  refine call_to rfl ?_
  refine spliced_more ?_
  refine MethodCall_ ?_
  refine wpAny_Constant_str ?_
  refine GM.join ?_
  refine callWith_method1 ?_
  refine spliced_more ?_
  refine eval_comp rfl rfl rfl (by decide) ?_
  refine nm_loc hn₃ rfl ?_
  refine wpAny_pyIter_list pl₃.isList ?_
  refine blk_eval (A := A.deeper _) (ys := ps) (src_list (r := r) (vs := vs) (hb := h₃.push { cls := .type "list_iterator", data := .fields #[.ref r, .int 0 0] }) hA.hh hP.row) (fun _ => true) (·.1) hA.hh ?_ ?_ ?_ ?_ ?_ ?_ ?_ ?_ ?_ ?_ ?_ ?_
  · exact fun b hb => hb.2
  · exact fun h hk => hbase1 h₃ h K₃ hL3 hk
  · omega
  · decide
  · rfl
  · rfl
  · rfl
  · decide
  · exact JL_start pl₃.isList T₃ rfl
  · intro C s₄ m y v1 v2 E' Q' hC h1 h2 hV hq
    exact wpAny_tests_nil (hq s₄.toks)
  · intro C s₄ m y v1 v2 E' Q' hC h1 h2 hV hq
    obtain ⟨⟨a, b, e1, e2⟩, hy⟩ := hV
    subst e1
    exact nm_loc hC h1 (hq a)
  intro D2 s₄ vD2 h₄ nD2 plD2 hS2 hk₄ gr₄
  have ef : ps.filter (fun _ => true) = ps := List.filter_eq_self.mpr fun _ _ => rfl
  rw [ef] at hS2
  have up₄ : ∀ b o, h₃.get? b = some o → h₄.get? b = some o := fun b o e => hk₄ b o ⟨Nat.ne_of_lt (Heap.lt_size e), o, Heap.get?_push_of_some _ e⟩ (Heap.get?_push_of_some _ e)
  have K₄ : Kp s.heap h₄ := K₃.trans up₄
  refine spliced_none ?_
  refine join_listW plD2.isList hS2 (by decide) (by have := hP.weight; rw [List.length_map]; omega) ?_
  intro t₅ tk₅
  refine spliced_none ?_
  refine ⟨B.keeps K₄, ?_⟩
  refine strip_spec (hA.deeper (by omega) (by omega)) (by show A.depth + 1 < 801; omega) (by show A.units + 3 < 4003; omega) (B.keeps K₄) hP.good.ascii hP.good.fin hP.good.len ?_
  intro t₆ s₆ a₆
  have K₆ : Kp s.heap s₆.heap := K₄.trans a₆.heap
  refine st_loc ((hn₃.keeps up₄).keeps a₆.heap) ?_
  intro h₇ hn₇ hs₇
  have K₇ : Kp s.heap h₇ := K₆.but nL hs₇.extBut
  have up₇ : ∀ b o, b ≠ s.heap.objs.size → h₃.get? b = some o → h₇.get? b = some o := fun b o hb e => hs₇.extBut b o hb (a₆.heap b o (up₄ b o e))
  have pl₇ : h₇.PlainList r vs.toArray := pl₃.at fun o e => up₇ _ o (list_ne_ns pl₃.isList hn₃) e
  have T₇ : TupsAre h₇ vs ps := T₃.to fun T us ht => IsTuple.keep ht fun o e => up₇ _ o (tup_ne_ns ht hn₃) e
  have plD1₇ : h₇.PlainList D1 vD1 := plD1.at fun o e => up₇ _ o (list_ne_ns plD1.isList hn₃) e
  refine wpAny_execs_cons ?_
  refine assign_comp rfl rfl rfl rfl (by decide) ?_
  refine Call_ ?_
  refine nm_glob (B.keeps K₇) rfl ?_
  refine call_to rfl ?_
  refine spliced_more ?_
  refine nm_loc hn₇ (if_pos rfl) ?_
  refine spliced_none ?_
  refine ⟨B.keeps K₇, ?_⟩
  refine iter_call (hA.deeper (by omega) (by omega)) (B.keeps K₇) hP.good.ascii' hP.good.fin' ?_
  intro ga fp s₈ gs G hgb hg₈ hos₈ k₈ hfp haf haN hal
  refine wpAny_pyIter_gen G.obj ?_
  refine blk_assign (A := A.deeper _) (ys := escGo 0 false (stripF (Txt.join (Str.ofString "") (ps.map (·.1)))).cps.toList) (src_gen (hb := h₇) (a := ga) (g := s₆.gens.size) (hA.deeper (by omega) (by omega))) isBr (·.2) hA.hh ?_ ?_ ?_ ?_ ?_ ?_ ?_ ?_ ?_ ?_ ?_ ?_ (hn₇.keeps k₈) ?_ ?_ ?_
  · rintro b ⟨o, e⟩; exact ⟨o, k₈ b o e⟩
  · exact fun h hk => (B.keeps K₇).keeps fun b o e => hk b o ⟨o, e⟩ (k₈ b o e)
  · exact Nat.le_trans (escGo_length _ _ _) hP.slen
  · decide
  · rfl
  · rfl
  · rfl
  · decide
  · intro own ho
    refine ⟨fp, G, haf, hfp, fun b hb => ⟨fun hm => ?_, ?_⟩, fun hm => ?_, fun b o e => ⟨o, k₈ b o e⟩⟩
    · obtain ⟨o, e⟩ := hal b hm; rw [ho b hb] at e; cases e
    · cases e : h₇.get? b with
      | none => rfl
      | some o => have := k₈ b o e; rw [ho b hb] at this; cases this
    · obtain ⟨o, _, _, e, _⟩ := G.obj; rw [ho _ hm] at e; cases e
  · intro C s₉ m y v1 v2 E' Q' hC h1 h2 hV hq
    refine wpAny_tests_one ?_
    obtain ⟨a, b, e1, e2⟩ := hV
    subst e2
    refine isTrue_or ?_
    refine wpAny_isTrue_Compare1 ?_
    refine nm_loc hC h2 ?_
    refine wpAny_Constant_str ?_
    refine eq_str ?_
    refine wpAny_truthy_bool ?_
    by_cases c1 : y.2 = op
    · refine Eq.mpr (if_pos (by rw [beq_lit op_lit]; exact decide_eq_true c1)) ?_
      have e : isBr y = true := by unfold isBr; rw [decide_eq_true c1]; rfl
      rw [e] at hq
      exact hq _
    · refine Eq.mpr (if_neg (by rw [beq_lit op_lit, decide_eq_false c1]; exact Bool.false_ne_true)) ?_
      refine isTrue_or ?_
      refine wpAny_isTrue_Compare1 ?_
      refine nm_loc hC h2 ?_
      refine wpAny_Constant_str ?_
      refine eq_str ?_
      refine wpAny_truthy_bool ?_
      by_cases c2 : y.2 = cl
      · refine Eq.mpr (if_pos (by rw [beq_lit cl_lit]; exact decide_eq_true c2)) ?_
        have e : isBr y = true := by unfold isBr; rw [decide_eq_true c2, Bool.or_true]
        rw [e] at hq
        exact hq _
      · refine Eq.mpr (if_neg (by rw [beq_lit cl_lit, decide_eq_false c2]; exact Bool.false_ne_true)) ?_
        refine isTrue_or_nil ?_
        have e : isBr y = false := by unfold isBr; rw [decide_eq_false c1, decide_eq_false c2]; rfl
        rw [e] at hq
        exact hq _
  · intro C s₉ m y v1 v2 E' Q' hC h1 h2 hV hq
    obtain ⟨a, b, e1, e2⟩ := hV
    subst e2
    exact nm_loc hC h2 (hq b)
  · obtain ⟨o, _, _, e, _⟩ := hn₇; exact ⟨o, e⟩
  · rfl
  · rfl
  intro D3 s₉ vD3 tk₉ h₉ nD3 plD3 hS3 hn₉ hk₉ gr₉
  have up₉ : ∀ b o, b ≠ s.heap.objs.size → h₇.get? b = some o → h₉.get? b = some o := fun b o hb e => hk₉ b o hb ⟨o, e⟩ (k₈ b o e)
  have K₉ : Kp s.heap h₉ := fun b o e => up₉ b o (neL b o e) (K₇ b o e)
  have pl₉ : h₉.PlainList r vs.toArray := pl₇.at fun o e => up₉ _ o (list_ne_ns pl₇.isList hn₇) e
  have T₉ : TupsAre h₉ vs ps := T₇.to fun T us ht => IsTuple.keep ht fun o e => up₉ _ o (tup_ne_ns ht hn₇) e
  have plD1₉ : h₉.PlainList D1 vD1 := plD1₇.at fun o e => up₉ _ o (list_ne_ns plD1₇.isList hn₇) e
  have brs1 : Brs ((ps.filter hasBr).map (·.2)) := fun x hx => by
    obtain ⟨p, hp, rfl⟩ := List.mem_map.mp hx
    obtain ⟨hp1, hp2⟩ := List.mem_filter.mp hp
    rcases hP.row p hp1 with e | e
    · unfold hasBr at hp2; rw [decide_eq_true e] at hp2; cases hp2
    · exact e
  have brs3 : Brs (((escGo 0 false (stripF (Txt.join (Str.ofString "") (ps.map (·.1)))).cps.toList).filter isBr).map (·.2)) := by rw [hP.same]; exact brs1
  refine wpAny_execs_cons ?_
  refine wpAny_Return_some ?_
  refine BoolOp_and ?_
  refine wpAny_Compare1 ?_
  refine nm_loc hn₉ (if_pos rfl) ?_
  refine nm_loc hn₉ rfl ?_
  refine eq_strs (vs := vD3.toList) (us := vD1.toList) (by simpa using plD3.isList) hS3 (by simpa using plD1₉.isList) hS1 (by show A.units + 3 + 64 < cLine; exact Nat.lt_of_lt_of_le (by omega : A.units + 3 + 64 < 5000) (by decide)) brs3.ok brs1.ok ?_
  refine wpAny_truthy_bool ?_
  refine Eq.mpr (if_pos (decide_eq_true hP.same)) ?_
  refine BoolOp_one ?_
  refine Call_ ?_
  refine nm_glob (B.keeps K₉) rfl ?_
  refine call_to rfl ?_
  refine spliced_more ?_
  refine nm_loc hn₉ rfl ?_
  refine spliced_none ?_
  refine ⟨B.keeps K₉, ?_⟩
  refine every_stretch (outer := [_]) (hA.deeper (by omega) (by omega)) (by show A.depth + 1 < 780; omega) (by show A.units + 3 < 3800; omega) (B.keeps K₉) (by rw [Around.deeper, hfr]; rfl) ?_ pl₉.isList T₉ hP.row (by omega) hP.stretch ?_
  · exact FrOk.cons (l := []) (fun e he => nomatch he) (show ScopeKind.function ≠ ScopeKind.module by decide) rfl hn₉ B.fresh
  intro s' kf hg ho
  refine hQ s' (fun b o e => kf.keep b o (fun hm => neL b o e (List.mem_singleton.mp hm)) (K₉ b o e)) ?_ ?_
  · obtain ⟨l, e, hl⟩ := hg
    have b3 : AllBare s₃.gens := gr₃.1 hbare
    have b4 : AllBare s₄.gens := gr₄.1 b3
    have b6 : AllBare s₆.gens := (GR.of_aft a₆).1 b4
    have b8 : AllBare s₈.gens := by
      rw [hg₈]
      intro y hy
      rcases Array.mem_push.mp hy with q | q
      · exact b6 y q
      · rw [q]; exact hgb
    have b9 : AllBare s₉.gens := gr₉.1 b8
    rw [e]
    intro y hy
    rcases Array.mem_append.mp hy with q | q
    · exact b9 y q
    · exact hl y (by simpa using q)
  · rw [ho]
    show s₉.os = s.os
    rw [gr₉.2, hos₈]
    show s₆.os = s.os
    rw [a₆.os]
    show s₄.os = s.os
    rw [gr₄.2]
    show s₃.os = s.os
    rw [gr₃.2]
end
end Mine
end

-- M28
section
open PySem PySem.W PySem.W.X PyProof.Rows PySem.Spec PySem.SeqAt PyProof.V
namespace Mine
open Sem (wp)

/-- opens less closes -/
def dd : List Str → Int
  | [] => 0
  | b :: r => (if b = op then 1 else -1) + dd r
theorem dd_append : ∀ a b, dd (a ++ b) = dd a + dd b
  | [], b => by simp [dd]
  | x :: a, b => by rw [List.cons_append, dd, dd, dd_append a b]; omega
theorem dd_cnt : ∀ {ss : List Str}, Brs ss → dd ss = (cnt op ss : Int) - (cnt cl ss : Int)
  | [], _ => rfl
  | x :: r, h => by
    have ih := dd_cnt h.tail
    rcases h x (.head _) with rfl | rfl
    · have e1 : cnt op (op :: r) = cnt op r + 1 := by unfold cnt; rw [List.countP_cons]; rfl
      have e2 : cnt cl (op :: r) = cnt cl r := by unfold cnt; rw [List.countP_cons]; simp [op_ne]
      rw [dd, if_pos rfl, e1, e2, ih]; push_cast; omega
    · have e1 : cnt op (cl :: r) = cnt op r := by unfold cnt; rw [List.countP_cons]; simp [Ne.symm op_ne]
      have e2 : cnt cl (cl :: r) = cnt cl r + 1 := by unfold cnt; rw [List.countP_cons]; rfl
      rw [dd, if_neg (Ne.symm op_ne), e1, e2, ih]; push_cast; omega
def chkB : Int → List Str → Bool
  | n, [] => decide (n = 0)
  | n, b :: r => if b = op then chkB (n + 1) r else if n - 1 < 0 then false else chkB (n - 1) r
theorem chk_filter : ∀ (ys : List (Nat × Str)) (n : Int), chkGo n ys = chkB n ((ys.filter isBr).map (·.2))
  | [], n => rfl
  | y :: r, n => by
    have ih := chk_filter r
    show (if y.2 = op then chkGo (n + 1) r else if y.2 = cl then (if n - 1 < 0 then false else chkGo (n - 1) r) else chkGo n r) = _
    by_cases c1 : y.2 = op
    · have e : isBr y = true := by unfold isBr; rw [decide_eq_true c1]; rfl
      rw [if_pos c1, List.filter_cons, e, if_pos rfl, List.map_cons, chkB, if_pos c1, ih]
    · by_cases c2 : y.2 = cl
      · have e : isBr y = true := by unfold isBr; rw [decide_eq_true c2, Bool.or_true]
        rw [if_neg c1, if_pos c2, List.filter_cons, e, if_pos rfl, List.map_cons, chkB, if_neg c1, ih]
      · have e : isBr y = false := by unfold isBr; rw [decide_eq_false c1, decide_eq_false c2]; rfl
        rw [if_neg c1, if_neg c2, List.filter_cons, e, ih]; rfl
theorem chkB_iff : ∀ (bs : List Str) (n : Int), 0 ≤ n → (chkB n bs = true ↔ (∀ k, 0 ≤ n + dd (bs.take k)) ∧ n + dd bs = 0)
  | [], n, hn => by
    simp only [chkB, decide_eq_true_eq, List.take_nil, dd]
    constructor
    · intro h; subst h; exact ⟨fun _ => by omega, by omega⟩
    · rintro ⟨_, h⟩; omega
  | b :: r, n, hn => by
    rw [chkB]
    by_cases c : b = op
    · rw [if_pos c, chkB_iff r (n + 1) (by omega)]
      constructor
      · rintro ⟨h1, h2⟩
        refine ⟨fun k => ?_, by rw [dd, if_pos c]; omega⟩
        cases k with
        | zero => simp [dd]; omega
        | succ k => rw [List.take_succ_cons, dd, if_pos c]; have := h1 k; omega
      · rintro ⟨h1, h2⟩
        rw [dd, if_pos c] at h2
        refine ⟨fun k => ?_, by omega⟩
        have := h1 (k + 1)
        rw [List.take_succ_cons, dd, if_pos c] at this
        omega
    · rw [if_neg c]
      by_cases hlt : n - 1 < 0
      · rw [if_pos hlt]
        constructor
        · intro h; cases h
        · rintro ⟨h1, h2⟩
          have := h1 1
          rw [List.take_succ_cons, List.take_zero, dd, if_neg c, dd] at this
          omega
      · rw [if_neg hlt, chkB_iff r (n - 1) (by omega)]
        constructor
        · rintro ⟨h1, h2⟩
          refine ⟨fun k => ?_, by rw [dd, if_neg c]; omega⟩
          cases k with
          | zero => simp [dd]; omega
          | succ k => rw [List.take_succ_cons, dd, if_neg c]; have := h1 k; omega
        · rintro ⟨h1, h2⟩
          rw [dd, if_neg c] at h2
          refine ⟨fun k => ?_, by omega⟩
          have := h1 (k + 1)
          rw [List.take_succ_cons, dd, if_neg c] at this
          omega
theorem low_dec {ss : List Str} (h : Brs ss) (hne : ss ≠ []) : lowW ss = op ↔ 0 ≤ dd ss := by
  rw [lowW, if_neg hne, dd_cnt h]
  by_cases q : cnt cl ss ≤ cnt op ss
  · rw [if_pos q]; constructor
    · intro _; omega
    · intro _; rfl
  · rw [if_neg q]; constructor
    · intro e; exact absurd e.symm op_ne
    · intro e; omega
theorem high_dec {ss : List Str} (h : Brs ss) (hne : ss ≠ []) : highW ss = cl ↔ dd ss ≤ 0 := by
  rw [highW, if_neg hne, dd_cnt h]
  by_cases q : cnt op ss ≤ cnt cl ss
  · rw [if_pos q]; constructor
    · intro _; omega
    · intro _; rfl
  · rw [if_neg q]; constructor
    · intro e; exact absurd e op_ne
    · intro e; omega
theorem Brs.app {a b : List Str} (x : Brs a) (y : Brs b) : Brs (a ++ b) := fun z hz => by
  rcases List.mem_append.mp hz with h | h
  · exact x z h
  · exact y z h
/-- the ends of the two told lists -/
def endL (ss : List Str) (g : Bool) : Bool := g && decide (highW ss = if ss = [] then noMsg else cl)
def endR (ss : List Str) (g : Bool) : Bool := g && decide (lowW ss = if ss = [] then noMsg else op)
def okL : List Str → List Str → Bool
  | _, [] => true
  | ss, b :: r => decide (lowW (ss ++ [b]) = op) && okL (ss ++ [b]) r
def okR : List Str → List Str → Bool
  | _, [] => true
  | ss, b :: r => decide (highW (ss ++ [b]) = cl) && okR (ss ++ [b]) r
def brs (ps : List (Str × Str)) : List Str := (ps.filter hasBr).map (·.2)
theorem brs_cons_emp {p : Str × Str} {r : List (Str × Str)} (h : p.2 = emp) : brs (p :: r) = brs r := by
  have e : hasBr p = false := by unfold hasBr; rw [decide_eq_true h]; rfl
  rw [brs, List.filter_cons, e]; rfl
theorem brs_cons_br {p : Str × Str} {r : List (Str × Str)} (h : p.2 ≠ emp) : brs (p :: r) = p.2 :: brs r := by
  have e : hasBr p = true := by unfold hasBr; rw [decide_eq_false h]; rfl
  rw [brs, List.filter_cons, e]; rfl
theorem brs_append (a b : List (Str × Str)) : brs (a ++ b) = brs a ++ brs b := by simp [brs]
theorem brs_reverse (a : List (Str × Str)) : brs a.reverse = (brs a).reverse := by simp [brs, List.filter_reverse, List.map_reverse]
theorem brs_ok {ps : List (Str × Str)} (h : RowOk ps) : Brs (brs ps) := fun x hx => by
  obtain ⟨p, hp, rfl⟩ := List.mem_map.mp hx
  obtain ⟨hp1, hp2⟩ := List.mem_filter.mp hp
  rcases h p hp1 with e | e
  · unfold hasBr at hp2; rw [decide_eq_true e] at hp2; cases hp2
  · exact e
theorem left_get : ∀ (ps : List (Str × Str)) (ss : List Str) (g : Bool) (k : Nat), k < ps.length → (leftGo ss g ps)[k]? = some (endL (ss ++ brs (ps.take (k + 1))) (g && okL ss (brs (ps.take (k + 1)))))
  | [], _, _, k, h => by simp at h
  | p :: r, ss, g, k, h => by
    rw [leftGo]
    by_cases c : p.2 = emp
    · have e1 : seenOf ss p = ss := by rw [seenOf, if_pos c]
      rw [if_pos c, e1]
      cases k with
      | zero => rw [List.getElem?_cons_zero, List.take_succ_cons, List.take_zero, brs_cons_emp c]; simp [brs, okL, endL]
      | succ k => rw [List.getElem?_cons_succ, left_get r ss g k (by simpa using h), List.take_succ_cons, brs_cons_emp c]
    · have e1 : seenOf ss p = ss ++ [p.2] := by rw [seenOf, if_neg c]
      rw [if_neg c, e1]
      cases k with
      | zero => rw [List.getElem?_cons_zero, List.take_succ_cons, List.take_zero, brs_cons_br c]; simp [brs, okL, endL]
      | succ k => rw [List.getElem?_cons_succ, left_get r _ _ k (by simpa using h), List.take_succ_cons, brs_cons_br c, okL, List.append_assoc, Bool.and_assoc]; rfl
theorem right_get : ∀ (ps : List (Str × Str)) (ss : List Str) (g : Bool) (k : Nat), k < ps.length → (rightGo ss g ps)[k]? = some (endR (ss ++ brs (ps.take (k + 1))) (g && okR ss (brs (ps.take (k + 1)))))
  | [], _, _, k, h => by simp at h
  | p :: r, ss, g, k, h => by
    rw [rightGo]
    by_cases c : p.2 = emp
    · have e1 : seenOf ss p = ss := by rw [seenOf, if_pos c]
      rw [if_pos c, e1]
      cases k with
      | zero => rw [List.getElem?_cons_zero, List.take_succ_cons, List.take_zero, brs_cons_emp c]; simp [brs, okR, endR]
      | succ k => rw [List.getElem?_cons_succ, right_get r ss g k (by simpa using h), List.take_succ_cons, brs_cons_emp c]
    · have e1 : seenOf ss p = ss ++ [p.2] := by rw [seenOf, if_neg c]
      rw [if_neg c, e1]
      cases k with
      | zero => rw [List.getElem?_cons_zero, List.take_succ_cons, List.take_zero, brs_cons_br c]; simp [brs, okR, endR]
      | succ k => rw [List.getElem?_cons_succ, right_get r _ _ k (by simpa using h), List.take_succ_cons, brs_cons_br c, okR, List.append_assoc, Bool.and_assoc]; rfl
theorem endL_iff {ss : List Str} (h : Brs ss) (g : Bool) : endL ss g = true ↔ g = true ∧ dd ss ≤ 0 := by
  unfold endL
  rw [Bool.and_eq_true, decide_eq_true_eq]
  by_cases c : ss = []
  · subst c; simp [highW, dd]
  · rw [if_neg c, high_dec h c]
theorem endR_iff {ss : List Str} (h : Brs ss) (g : Bool) : endR ss g = true ↔ g = true ∧ 0 ≤ dd ss := by
  unfold endR
  rw [Bool.and_eq_true, decide_eq_true_eq]
  by_cases c : ss = []
  · subst c; simp [lowW, dd]
  · rw [if_neg c, low_dec h c]
theorem okL_iff : ∀ (bs ss : List Str), Brs (ss ++ bs) → 0 ≤ dd ss → (okL ss bs = true ↔ ∀ k, 0 ≤ dd ss + dd (bs.take k))
  | [], ss, h, h0 => by simp [okL, dd, h0]
  | b :: r, ss, h, h0 => by
    have h' : Brs ((ss ++ [b]) ++ r) := by rw [List.append_assoc]; exact h
    have h1 : Brs (ss ++ [b]) := fun x hx => h' x (List.mem_append_left _ hx)
    rw [okL, Bool.and_eq_true, decide_eq_true_eq, low_dec h1 (by simp)]
    have ed : dd (ss ++ [b]) = dd ss + dd [b] := dd_append ..
    have eb : ∀ k, dd ((b :: r).take (k + 1)) = dd [b] + dd (r.take k) := fun k => by rw [List.take_succ_cons]; exact dd_append [b] _
    constructor
    · rintro ⟨q1, q2⟩ k
      cases k with
      | zero => simp [dd]; exact h0
      | succ k => rw [eb]; have := (okL_iff r _ h' q1).mp q2 k; omega
    · intro q
      have q1 : 0 ≤ dd (ss ++ [b]) := by have := q 1; rw [eb] at this; simp only [List.take_zero, dd] at this ed ⊢; omega
      exact ⟨q1, (okL_iff r _ h' q1).mpr fun k => by have := q (k + 1); rw [eb] at this; omega⟩
theorem okR_iff : ∀ (bs ss : List Str), Brs (ss ++ bs) → dd ss ≤ 0 → (okR ss bs = true ↔ ∀ k, dd ss + dd (bs.take k) ≤ 0)
  | [], ss, h, h0 => by simp [okR, dd, h0]
  | b :: r, ss, h, h0 => by
    have h' : Brs ((ss ++ [b]) ++ r) := by rw [List.append_assoc]; exact h
    have h1 : Brs (ss ++ [b]) := fun x hx => h' x (List.mem_append_left _ hx)
    rw [okR, Bool.and_eq_true, decide_eq_true_eq, high_dec h1 (by simp)]
    have ed : dd (ss ++ [b]) = dd ss + dd [b] := dd_append ..
    have eb : ∀ k, dd ((b :: r).take (k + 1)) = dd [b] + dd (r.take k) := fun k => by rw [List.take_succ_cons]; exact dd_append [b] _
    constructor
    · rintro ⟨q1, q2⟩ k
      cases k with
      | zero => simp [dd]; exact h0
      | succ k => rw [eb]; have := (okR_iff r _ h' q1).mp q2 k; omega
    · intro q
      have q1 : dd (ss ++ [b]) ≤ 0 := by have := q 1; rw [eb] at this; simp only [List.take_zero, dd] at this ed ⊢; omega
      exact ⟨q1, (okR_iff r _ h' q1).mpr fun k => by have := q (k + 1); rw [eb] at this; omega⟩
theorem left_chk {bs : List Str} (h : Brs bs) : endL ([] ++ bs) (true && okL [] bs) = chkB 0 bs := by
  rw [Bool.eq_iff_iff, List.nil_append, Bool.true_and, endL_iff h, okL_iff bs [] h (by decide), chkB_iff bs 0 (by decide)]
  simp only [dd]
  constructor
  · rintro ⟨q1, q2⟩
    refine ⟨q1, ?_⟩
    have := q1 bs.length
    rw [List.take_length] at this
    omega
  · rintro ⟨q1, q2⟩
    exact ⟨q1, by omega⟩
theorem dd_reverse : ∀ bs : List Str, dd bs.reverse = dd bs
  | [] => rfl
  | b :: r => by rw [List.reverse_cons, dd_append, dd_reverse r, dd, dd, dd]; omega
theorem right_chk {bs : List Str} (h : Brs bs) : endR ([] ++ bs.reverse) (true && okR [] bs.reverse) = chkB 0 bs := by
  have hr : Brs bs.reverse := fun x hx => h x (List.mem_reverse.mp hx)
  rw [Bool.eq_iff_iff, List.nil_append, Bool.true_and, endR_iff hr, okR_iff bs.reverse [] hr (by decide), chkB_iff bs 0 (by decide), dd_reverse]
  simp only [dd]
  have key : ∀ k, dd (bs.reverse.take k) = dd bs - dd (bs.take (bs.length - k)) := fun k => by
    have e1 : dd bs = dd (bs.take (bs.length - k)) + dd (bs.drop (bs.length - k)) := by rw [← dd_append, List.take_append_drop]
    rw [List.take_reverse, dd_reverse]
    omega
  constructor
  · rintro ⟨q1, q2⟩
    have h0 : dd bs = 0 := by
      have := q1 bs.length
      rw [key] at this
      simp [dd] at this
      omega
    refine ⟨fun k => ?_, by omega⟩
    by_cases c : k ≤ bs.length
    · have := q1 (bs.length - k)
      rw [key, show bs.length - (bs.length - k) = k by omega] at this
      omega
    · rw [List.take_of_length_le (by omega)]; omega
  · rintro ⟨q1, q2⟩
    refine ⟨fun k => ?_, by omega⟩
    rw [key]
    have := q1 (bs.length - k)
    omega
end Mine
end

-- M29
section
open PySem PySem.W PySem.W.X PyProof.Rows PySem.Spec PySem.SeqAt PyProof.V
namespace Mine
open Sem (wp)

def tx (p : Str × Str) : List Nat := p.1.cps.toList
def XX (qs : List (Str × Str)) : List Nat := (qs.map tx).flatten
def quoted (p : Str × Str) : Bool := decide ((tx p)[0]? = some 34)
theorem escEnd_append : ∀ (a c : List Nat) (b : Bool), escEnd b (a ++ c) = escEnd (escEnd b a) c
  | [], _, _ => rfl
  | x :: a, c, true => escEnd_append a c false
  | x :: a, c, false => escEnd_append a c (decide (x = 92))
theorem escGo_append : ∀ (a c : List Nat) (b : Bool) (p : Nat), escGo p b (a ++ c) = escGo p b a ++ escGo (p + a.length) (escEnd b a) c
  | [], _, _, _ => rfl
  | x :: a, c, true, p => by
    show (p, _) :: escGo (p + 1) false (a ++ c) = _
    rw [escGo_append a c false (p + 1), List.length_cons, show p + (a.length + 1) = p + 1 + a.length by omega]
    rfl
  | x :: a, c, false, p => by
    rw [List.length_cons, show p + (a.length + 1) = p + 1 + a.length by omega]
    show (if x = 92 then escGo (p + 1) true (a ++ c) else (p, _) :: escGo (p + 1) false (a ++ c)) = (if x = 92 then escGo (p + 1) true a else (p, _) :: escGo (p + 1) false a) ++ escGo (p + 1 + a.length) (escEnd (decide (x = 92)) a) c
    by_cases h : x = 92
    · rw [if_pos h, if_pos h, decide_eq_true h, escGo_append a c true (p + 1)]
    · rw [if_neg h, if_neg h, decide_eq_false h, escGo_append a c false (p + 1)]; rfl
def Pcs (qs : List (Str × Str)) : Prop := ∀ p ∈ qs, p ∈ pieces
theorem Pcs.tail {p : Str × Str} {qs : List (Str × Str)} (h : Pcs (p :: qs)) : Pcs qs := fun x hx => h x (.tail _ hx)
theorem pc_end : ∀ p ∈ pieces, escEnd false (tx p) = false := by decide +kernel
theorem pc_ascii : ∀ p ∈ pieces, (tx p).all (· < 128) = true := by decide +kernel
theorem pc_len : ∀ p ∈ pieces, (tx p).length ≤ 5 := by decide +kernel
theorem pc_row : ∀ p ∈ pieces, p.2 = emp ∨ p.2 = op ∨ p.2 = cl := by decide +kernel
theorem pc_quoted_emp : ∀ p ∈ pieces, quoted p = true → p.2 = emp := by decide +kernel
theorem xx_cons (p : Str × Str) (qs : List (Str × Str)) : XX (p :: qs) = tx p ++ XX qs := by simp [XX]
theorem xx_end : ∀ {qs : List (Str × Str)}, Pcs qs → escEnd false (XX qs) = false
  | [], _ => rfl
  | p :: r, h => by rw [xx_cons, escEnd_append, pc_end p (h p (.head _))]; exact xx_end h.tail
theorem xx_ascii : ∀ {qs : List (Str × Str)}, Pcs qs → (XX qs).all (· < 128) = true
  | [], _ => rfl
  | p :: r, h => by rw [xx_cons, List.all_append, pc_ascii p (h p (.head _)), xx_ascii h.tail]; rfl
theorem xx_len : ∀ {qs : List (Str × Str)}, Pcs qs → (XX qs).length ≤ 5 * qs.length
  | [], _ => Nat.le_refl _
  | p :: r, h => by
    have h1 := pc_len p (h p (.head _))
    have h2 := xx_len h.tail
    rw [xx_cons, List.length_append, List.length_cons]; omega
/-- the signs of one piece, wherever it stands -/
theorem signs_plain (n : Nat) : ∀ p ∈ pieces, quoted p = false → (∀ y ∈ escGo n false (tx p), y.2 ≠ ⟨#[34]⟩) ∧ ((escGo n false (tx p)).filter isBr).map (·.2) = (if hasBr p then [p.2] else []) := by
  intro p hp hq
  simp only [pieces, List.mem_cons, List.not_mem_nil, or_false] at hp
  rcases hp with rfl | rfl | rfl | rfl | rfl | rfl | rfl | rfl | rfl | rfl | rfl | rfl | rfl | rfl | rfl
  all_goals first
    | (exact absurd hq (by decide +kernel))
    | (refine ⟨?_, ?_⟩
       · intro y hy
         simp [escGo, tx] at hy
         subst hy
         dsimp only
         decide
       · simp [escGo, tx, isBr, hasBr, op, cl, emp])
theorem signs_quoted (n : Nat) : ∀ p ∈ pieces, quoted p = true → ∃ mid, escGo n false (tx p) = (n, ⟨#[34]⟩) :: mid ++ [(n + (tx p).length - 1, ⟨#[34]⟩)] ∧ ∀ y ∈ mid, y.2 ≠ ⟨#[34]⟩ := by
  intro p hp hq
  simp only [pieces, List.mem_cons, List.not_mem_nil, or_false] at hp
  rcases hp with rfl | rfl | rfl | rfl | rfl | rfl | rfl | rfl | rfl | rfl | rfl | rfl | rfl | rfl | rfl
  · exact absurd hq (by decide +kernel)
  · exact absurd hq (by decide +kernel)
  · exact absurd hq (by decide +kernel)
  · exact absurd hq (by decide +kernel)
  · exact absurd hq (by decide +kernel)
  · exact absurd hq (by decide +kernel)
  · exact ⟨[(n + 1, ⟨#[40]⟩)], by simp [escGo, tx], by simp⟩
  · exact ⟨[(n + 1, ⟨#[41]⟩)], by simp [escGo, tx], by simp⟩
  · exact ⟨[], by simp [escGo, tx], by simp⟩
  · exact ⟨[(n + 2, ⟨#[92, 34]⟩), (n + 3, ⟨#[41]⟩)], by simp [escGo, tx], by simp⟩
  · exact ⟨[(n + 1, ⟨#[41]⟩), (n + 2, ⟨#[41]⟩), (n + 3, ⟨#[40]⟩)], by simp [escGo, tx], by simp⟩
  · exact absurd hq (by decide +kernel)
  · exact absurd hq (by decide +kernel)
  · exact absurd hq (by decide +kernel)
  · exact absurd hq (by decide +kernel)
theorem stripGo_cons (x : Str) (st : Int) (o : Option Int) (res : List Str) (y : Nat × Str) (r : List (Nat × Str)) : stripGo x st o res (y :: r) = if y.2 = ⟨#[34]⟩ then (match o with
      | none => stripGo x st (some y.1) res r
      | some q => stripGo x (y.1 + 1) none (if st = q then res else res ++ [Txt.slice x (some st) (some q)]) r) else stripGo x st o res r := by rfl
theorem skip_signs (x : Str) : ∀ (a b : List (Nat × Str)) (st : Int) (o : Option Int) (res : List Str), (∀ y ∈ a, y.2 ≠ ⟨#[34]⟩) → stripGo x st o res (a ++ b) = stripGo x st o res b
  | [], _, _, _, _, _ => rfl
  | y :: a, b, st, o, res, h => by
    rw [List.cons_append, stripGo_cons, if_neg (h y (.head _))]
    exact skip_signs x a b st o res fun z hz => h z (.tail _ hz)
def flat (l : List Str) : List Nat := (l.map (·.cps.toList)).flatten
theorem join_flat : ∀ l : List Str, (Txt.join (Str.ofString "") l).cps.toList = flat l := by
  have e0 : Str.ofString "" = ⟨#[]⟩ := by decide +kernel
  have key : ∀ (rest : List Str) (acc : Array Nat), (rest.foldl (fun acc p => acc ++ (#[] : Array Nat) ++ p.cps) acc).toList = acc.toList ++ flat rest := by
    intro rest
    induction rest with
    | nil => intro acc; simp [flat]
    | cons y r ih => intro acc; rw [List.foldl_cons, ih]; simp [flat]
  intro l
  rw [e0]
  cases l with
  | nil => rfl
  | cons x rest =>
    show (rest.foldl (fun acc p => acc ++ (#[] : Array Nat) ++ p.cps) x.cps).toList = _
    rw [key]; simp [flat]
theorem flat_append (a b : List Str) : flat (a ++ b) = flat a ++ flat b := by simp [flat]

theorem slice_ss_list (x : Str) (a b : Nat) (h1 : a ≤ b) (h2 : b ≤ x.length) : (Txt.slice x (some (a : Int)) (some (b : Int))).cps.toList = (x.cps.toList.drop a).take (b - a) := by
  have hn : x.cps.toList.length = x.length := by simp [Str.length]
  have e : Builtin.Str.strSliceIndices (some (a : Int)) (some (b : Int)) 1 x.length = (List.range (b - a)).map (a + ·) := by
    rw [← sliceRange_one a b]
    have q1 : ¬ ((a : Int) < 0) := by omega
    have q2 : ¬ ((b : Int) < 0) := by omega
    have q3 : max (0 : Int) (min (a : Int) (x.length : Int)) = a := by omega
    have q4 : max (0 : Int) (min (b : Int) (x.length : Int)) = b := by omega
    simp only [Builtin.Str.strSliceIndices, q1, q2, if_false, show (1 : Int) > 0 by decide, if_true, q3, q4]
  unfold Txt.slice
  rw [e]
  split
  · rename_i hc
    simp at hc
    have ha : a = 0 := by omega
    subst ha
    rw [List.drop_zero, List.take_of_length_le (by omega)]
  · show (List.filterMap (x.cps[·]?) _) = _
    exact pick_run x.cps a (b - a)
theorem slice_sn_list (x : Str) (a : Nat) (h1 : a ≤ x.length) : (Txt.slice x (some (a : Int)) none).cps.toList = x.cps.toList.drop a := by
  have hn : x.cps.toList.length = x.length := by simp [Str.length]
  have e : Builtin.Str.strSliceIndices (some (a : Int)) none 1 x.length = (List.range (x.length - a)).map (a + ·) := by
    rw [← sliceRange_one a x.length]
    have q1 : ¬ ((a : Int) < 0) := by omega
    have q3 : max (0 : Int) (min (a : Int) (x.length : Int)) = a := by omega
    simp only [Builtin.Str.strSliceIndices, q1, if_false, show (1 : Int) > 0 by decide, if_true, q3]
  unfold Txt.slice
  rw [e]
  split
  · rename_i hc
    simp at hc
    have ha : a = 0 := by omega
    subst ha
    rw [List.drop_zero]
  · show (List.filterMap (x.cps[·]?) _) = _
    rw [pick_run x.cps a (x.length - a), List.take_of_length_le (by rw [List.length_drop]; omega)]
def bare (qs : List (Str × Str)) : List (Str × Str) := qs.filter fun p => !quoted p
theorem bare_cons_q {p : Str × Str} {r : List (Str × Str)} (h : quoted p = true) : bare (p :: r) = bare r := by rw [bare, List.filter_cons, h]; rfl
theorem bare_cons_n {p : Str × Str} {r : List (Str × Str)} (h : quoted p = false) : bare (p :: r) = p :: bare r := by rw [bare, List.filter_cons, h]; rfl
theorem strip_main (x : Str) : ∀ (qs : List (Str × Str)) (pre : List Nat) (st : Nat) (res : List Str), Pcs qs → x.cps.toList = pre ++ XX qs → st ≤ pre.length →
    flat (stripGo x st none res (escGo pre.length false (XX qs))) = flat res ++ pre.drop st ++ XX (bare qs)
  | [], pre, st, res, hp, hx, hst => by
    have hn : x.length = pre.length := by
      have := congrArg List.length hx
      simpa [Str.length, XX] using this
    have hx' : x.cps.toList = pre := by simpa [XX] using hx
    show flat (if (st : Int) < x.length then res ++ [Txt.slice x (some (st : Int)) none] else res) = flat res ++ pre.drop st ++ []
    by_cases c : (st : Int) < x.length
    · rw [if_pos c, flat_append]
      have : flat [Txt.slice x (some (st : Int)) none] = pre.drop st := by
        simp only [flat, List.map_cons, List.map_nil, List.flatten_cons, List.flatten_nil, List.append_nil]
        rw [slice_sn_list x st (by omega), hx']
      rw [this, List.append_nil]
    · rw [if_neg c, List.drop_eq_nil_iff.mpr (by omega), List.append_nil, List.append_nil]
  | p :: r, pre, st, res, hp, hx, hst => by
    have hpp := hp p (.head _)
    have hx2 : x.cps.toList = (pre ++ tx p) ++ XX r := by rw [hx, xx_cons, List.append_assoc]
    have hl : (pre ++ tx p).length = pre.length + (tx p).length := List.length_append
    rw [xx_cons, escGo_append, pc_end p hpp]
    cases hq : quoted p with
    | false =>
      rw [skip_signs x _ _ _ _ _ (signs_plain pre.length p hpp hq).1, ← hl, strip_main x r (pre ++ tx p) st res hp.tail hx2 (by omega), bare_cons_n hq, xx_cons, List.drop_append_of_le_length hst]
      simp only [List.append_assoc]
    | true =>
      obtain ⟨mid, e, hm⟩ := signs_quoted pre.length p hpp hq
      have hpos : 1 ≤ (tx p).length := by
        have : (tx p)[0]? = some 34 := by simpa [quoted] using hq
        rcases Nat.eq_zero_or_pos (tx p).length with h | h
        · rw [List.length_eq_zero_iff.mp h] at this; cases this
        · exact h
      have hxl : x.length = pre.length + (tx p).length + (XX r).length := by
        have := congrArg List.length hx2
        rw [List.length_append, List.length_append] at this
        simpa [Str.length] using this
      rw [e, List.cons_append, List.cons_append, stripGo_cons, if_pos rfl]
      show flat (stripGo x st (some (pre.length : Int)) res (mid ++ [(pre.length + (tx p).length - 1, ⟨#[34]⟩)] ++ escGo (pre.length + (tx p).length) false (XX r))) = _
      rw [List.append_assoc, skip_signs x _ _ _ _ _ hm, List.cons_append, List.nil_append, stripGo_cons, if_pos rfl]
      show flat (stripGo x ((pre.length + (tx p).length - 1 : Nat) + 1 : Int) none (if (st : Int) = (pre.length : Int) then res else res ++ [Txt.slice x (some (st : Int)) (some (pre.length : Int))]) _) = _
      have ec : (((pre.length + (tx p).length - 1 : Nat) : Int) + 1) = ((pre.length + (tx p).length : Nat) : Int) := by omega
      rw [ec, ← hl, strip_main x r (pre ++ tx p) (pre ++ tx p).length _ hp.tail hx2 (Nat.le_refl _), bare_cons_q hq, List.drop_length, List.append_nil]
      congr 1
      by_cases c : st = pre.length
      · rw [if_pos (by omega), List.drop_eq_nil_iff.mpr (by omega), List.append_nil]
      · rw [if_neg (by omega), flat_append]
        congr 1
        simp only [flat, List.map_cons, List.map_nil, List.flatten_cons, List.flatten_nil, List.append_nil]
        rw [slice_ss_list x st pre.length hst (by omega), hx, List.drop_append_of_le_length hst, List.take_append_of_le_length (by rw [List.length_drop]; exact Nat.le_refl _), List.take_of_length_le (by rw [List.length_drop]; exact Nat.le_refl _)]
theorem Pcs.bare {qs : List (Str × Str)} (h : Pcs qs) : Pcs (bare qs) := fun p hp => h p (List.mem_filter.mp hp).1
theorem bare_all : ∀ {qs : List (Str × Str)}, 34 ∉ XX qs → Mine.bare qs = qs
  | [], _ => rfl
  | p :: r, h => by
    rw [xx_cons] at h
    have hq : quoted p = false := by
      cases hq : quoted p with
      | false => rfl
      | true =>
        have : (tx p)[0]? = some 34 := by simpa [quoted] using hq
        exact absurd (List.mem_append_left _ (List.mem_of_getElem? this)) h
    rw [bare_cons_n hq, bare_all fun hm => h (List.mem_append_right _ hm)]
theorem strip_text {qs : List (Str × Str)} (h : Pcs qs) {x : Str} (hx : x.cps.toList = XX qs) : (stripF x).cps.toList = XX (bare qs) := by
  have hq : Str.ofString "\"" = ⟨#[34]⟩ := by decide +kernel
  unfold stripF
  have hf := StrLaws.found_one x 34
  rw [hq]
  by_cases c : (Builtin.Str.occurrences x ⟨#[34]⟩ 0 x.length 1).isEmpty = true
  · rw [if_pos c, hx]
    rw [c] at hf
    have : 34 ∉ XX qs := by
      intro hm
      rw [hx, decide_eq_true hm] at hf
      cases hf
    rw [bare_all this]
  · rw [if_neg c, join_flat, hx]
    have := strip_main x qs [] 0 [] h (by simpa using hx) (Nat.le_refl _)
    simpa [flat] using this
theorem signs_XX : ∀ {zs : List (Str × Str)} (n : Nat), Pcs zs → (∀ p ∈ zs, quoted p = false) → ((escGo n false (XX zs)).filter isBr).map (·.2) = brs zs
  | [], _, _, _ => rfl
  | p :: r, n, h, hq => by
    have hpp := h p (.head _)
    have hb : brs (p :: r) = (if hasBr p then [p.2] else []) ++ brs r := by
      rw [brs, List.filter_cons]
      cases hasBr p <;> rfl
    rw [xx_cons, escGo_append, pc_end p hpp, List.filter_append, List.map_append, (signs_plain n p hpp (hq p (.head _))).2, signs_XX _ h.tail fun z hz => hq z (.tail _ hz), hb]
theorem brs_bare : ∀ {qs : List (Str × Str)}, Pcs qs → brs (bare qs) = brs qs
  | [], _ => rfl
  | p :: r, h => by
    cases hq : quoted p with
    | true => rw [bare_cons_q hq, brs_cons_emp (pc_quoted_emp p (h p (.head _)) hq), brs_bare h.tail]
    | false =>
      rw [bare_cons_n hq]
      by_cases c : p.2 = emp
      · rw [brs_cons_emp c, brs_cons_emp c, brs_bare h.tail]
      · rw [brs_cons_br c, brs_cons_br c, brs_bare h.tail]
theorem signs_text {qs : List (Str × Str)} (h : Pcs qs) {x : Str} (hx : x.cps.toList = XX qs) : ((escGo 0 false (stripF x).cps.toList).filter isBr).map (·.2) = brs qs := by
  rw [strip_text h hx, signs_XX 0 h.bare (fun p hp => by simpa using (List.mem_filter.mp hp).2), brs_bare h]
theorem bare_len (qs : List (Str × Str)) : (bare qs).length ≤ qs.length := List.length_filter_le ..
theorem good_text {qs : List (Str × Str)} (h : Pcs qs) (hl : qs.length ≤ 40) {x : Str} (hx : x.cps.toList = XX qs) : GoodText x where
  ascii := by rw [← Array.all_toList, hx]; exact xx_ascii h
  fin := by rw [hx]; exact xx_end h
  len := by
    have := xx_len h
    rw [← hx] at this
    have e : x.cps.toList.length = x.length := by simp [Str.length]
    omega
  ascii' := by rw [← Array.all_toList, strip_text h hx]; exact xx_ascii h.bare
  fin' := by rw [strip_text h hx]; exact xx_end h.bare
theorem check_text {qs : List (Str × Str)} (h : Pcs qs) {x : Str} (hx : x.cps.toList = XX qs) : checkF x = chkB 0 (brs qs) := by
  rw [checkF, chk_filter, signs_text h hx]
theorem whole_text : ∀ (qs : List (Str × Str)), (wholeOf qs).cps.toList = XX qs := by
  have key : ∀ (qs : List (Str × Str)) (a : Str), (qs.foldl (fun a p => a ++ p.1) a).cps.toList = a.cps.toList ++ XX qs := by
    intro qs
    induction qs with
    | nil => intro a; simp [XX]
    | cons p r ih => intro a; rw [List.foldl_cons, ih, xx_cons, Str.cps_append]; simp [tx]
  intro qs
  rw [wholeOf, key]
  rfl
theorem join_text (qs : List (Str × Str)) : (Txt.join (Str.ofString "") (qs.map (·.1))).cps.toList = XX qs := by
  rw [join_flat, flat, XX, List.map_map]; rfl
theorem plain_ok (ps : List (Str × Str)) (h : ∀ p ∈ ps, p ∈ pieces) (h9 : ps.length ≤ 9) : PlainOk ps where
  row := fun p hp => pc_row p (h p hp)
  good := good_text h (by omega) (join_text ps)
  same := signs_text h (join_text ps)
  stretch := by
    intro i j hij hj
    have hsub : Pcs ((ps.drop i).take (j + 1 - i)) := fun p hp => h p (List.mem_of_mem_drop (List.mem_of_mem_take hp))
    have hrow : RowOk ((ps.drop i).take (j + 1 - i)) := fun p hp => pc_row p (hsub p hp)
    have hlen : ((ps.drop i).take (j + 1 - i)).length = j + 1 - i := by rw [List.length_take, List.length_drop]; omega
    have hchk := check_text hsub (whole_text _)
    refine ⟨good_text hsub (by omega) (whole_text _), ?_, ?_⟩
    · rw [left_get (ps.drop i) [] true (j - i) (by rw [List.length_drop]; omega), show j - i + 1 = j + 1 - i by omega, left_chk (brs_ok hrow), hchk]
    · rw [right_get (ps.take (j + 1)).reverse [] true (j - i) (by rw [List.length_reverse, List.length_take]; omega)]
      have e : (ps.take (j + 1)).reverse.take (j - i + 1) = ((ps.drop i).take (j + 1 - i)).reverse := by
        rw [List.take_reverse, List.length_take, show min (j + 1) ps.length - (j - i + 1) = i by omega, List.drop_take]
      rw [e, brs_reverse, right_chk (brs_ok hrow), hchk]
  weight := by
    have : ((ps.map (·.1)).map (·.length)).sum = (XX ps).length := by
      have key : ∀ qs : List (Str × Str), ((qs.map (·.1)).map (·.length)).sum = (XX qs).length := by
        intro qs
        induction qs with
        | nil => rfl
        | cons p r ih => rw [xx_cons, List.length_append, ← ih]; simp [tx, Str.length]
      exact key ps
    rw [this]
    have := xx_len (qs := ps) h
    omega
  slen := by
    rw [strip_text h (join_text ps)]
    have h1 := xx_len (Pcs.bare (qs := ps) h)
    have h2 := bare_len ps
    omega
end Mine
end

-- M30
section
open PySem PySem.W PySem.W.X PyProof.Rows PySem.Spec PySem.SeqAt PyProof.V
namespace Mine
open Sem (wp)

theorem ns_same {h : Heap} {a : Addr} {m m' : Str → Option Value} (x : h.Ns a m) (y : h.Ns a m') (z : Str) : m z = m' z := by
  obtain ⟨o, es, p, ho, hd, _, hm⟩ := x
  obtain ⟨o', es', p', ho', hd', _, hm'⟩ := y
  rw [ho] at ho'
  cases ho'
  rw [hd] at hd'
  cases hd'
  rw [← hm z, ← hm' z]
theorem fin : PySem.Challenge.rw_nb0101_01.Holds := by
  refine Mine.hd ?_
  intro w s₀ s₁ mg mb G Y fa o pm cd doc dV kV ho hd hcd hD hmg hg args vals as hpre hlay hrd hwl hlo
  have K := kIn_of Y
  have B : Base w s₁.heap := ⟨K, ⟨mb, G.T.b, G.T.builtins⟩, G.T.nolimit⟩
  have e107 : fa = 107 := by
    have h1 := ns_same G.T.g B.g (Str.ofString "law")
    have h2 : mg (Str.ofString "law") = some (.ref fa) := hmg
    rw [h2] at h1
    have h3 : nsFind (gEntries w) (Str.ofString "law") = some (.ref 107) := rfl
    rw [h3] at h1
    injection h1 with h1
    injection h1
  subst e107
  wrow_args hpre hlay hrd hwl hlo
  rename_i ns hs h0 hl1 hr1 hl2 a4 a3 sc ivs a0 hL ra hw r0 hI hr hc1 hc2
  have hlen : ivs.length < 64 := by
    have e : ivs.length = ns.length := by
      clear hc1 hc2 ra r0 hw hL hs hl1
      induction hI with
      | nil => rfl
      | cons n t _ ih => simp [ih]
    omega
  have bare0 : AllBare s₁.gens := by rw [hg]; intro y hy; simp at hy
  show wpAny (model PySem.Challenge.rw_nb0101_01.row.prog w) callerA (call (.ref 107) [.ref sc]) _ _ s₁
  refine law_spec (A := callerA) ⟨rfl, by decide, by decide⟩ (by decide) (by decide) B rfl hL hI.allInts hlen bare0 plain_ok ?_
  intro s' K' bare os
  exact ⟨.inl ⟨_, _, [], rfl, fun _ => rfl, ReadsW.bool true, (by with_unfolding_all rfl), fun _ => ⟨List.nodup_nil, fun _ hm => (nomatch hm)⟩⟩, OldK.of_keep K', os, bare⟩
end Mine
end

theorem PySem.Challenge.cw_nb0101_01_holds : PySem.Challenge.rw_nb0101_01.Holds := by
  exact Mine.fin
