import PyProof.Rows.All
import Wide.All
import OpenK.AllK
import Wide.FinOn
import PySem.Challenge.RW_rs0061_01

set_option Elab.async false
set_option maxRecDepth 100000
set_option maxHeartbeats 8000000

section
open PySem PySem.W PyProof.Rows
namespace Mine
open_top hd for PySem.Challenge.rw_rs0061_01
theorem top_off : True := by w_top off; trivial
end Mine
end

section
open PySem PySem.W PyProof.Rows
namespace Mine
open Sem (wp)

theorem update_size (h : Heap) (a : Addr) (f : Obj → Obj) : (h.update a f).objs.size = h.objs.size := (Heap.SameBut.update ..).1
theorem runs_size {M : Model} {Γ : Ctx} {p : Pos} {t : Sem Fin} {fs : List Frame} {s s' : Shared} {e : End} (h : Runs M Γ p t fs s e s') : s.heap.objs.size ≤ s'.heap.objs.size := by
  induction h <;> (try simp only [Shared.setGen, Heap.size_push, update_size] at *) <;> omega
theorem wakes_size {M : Model} {Γ : Ctx} {p : Pos} {g : Nat} {r : Resume} {s s' : Shared} {res : GenResult} (h : Wakes M Γ p g r s res s') : s.heap.objs.size ≤ s'.heap.objs.size := by
  unfold Wakes at h
  split at h
  · exact h.elim
  · split at h
    · obtain ⟨e₁, s₁, hr, _, _, rfl⟩ := h; exact (runs_size hr : (s.setGen g .running).heap.objs.size ≤ s₁.heap.objs.size)
    · rw [h.2]; exact Nat.le_refl _
    · rw [h.2]; exact Nat.le_refl _
  · obtain ⟨e₁, s₁, hr, _, _, rfl⟩ := h; exact (runs_size hr : (s.setGen g .running).heap.objs.size ≤ s₁.heap.objs.size)
  · rw [h.2]; exact Nat.le_refl _
  · rw [h.2]; exact Nat.le_refl _

theorem wp_size {α : Type} (M : Model) (Γ : Ctx) (n : Nat) (t : Sem α) : ∀ (Q : α → Pos → Shared → Prop) (E : Value → Pos → Shared → Prop) (p : Pos) (s : Shared), n ≤ s.heap.objs.size → wp M Γ t Q E p s →
    wp M Γ t (fun a p' s' => n ≤ s'.heap.objs.size ∧ Q a p' s') (fun e p' s' => n ≤ s'.heap.objs.size ∧ E e p' s') p s := by
  induction t with
  | pure a => intro Q E p s hn h; exact ⟨hn, h⟩
  | raise e => intro Q E p s hn h; exact ⟨hn, h⟩
  | unsupported _ => intro Q E p s _ h; exact h
  | finish _ => intro Q E p s _ h; exact h
  | rule _ k ih => intro Q E p s hn h; exact ih () Q E p s hn h
  | «at» p' k ih => intro Q E p s hn h; exact ih () Q E p' s hn h
  | load a _ k ih => intro Q E p s hn h; obtain ⟨o, ho, h⟩ := h; exact ⟨o, ho, ih o Q E p s hn h⟩
  | update a _ f k ih => intro Q E p s hn h; exact ⟨h.1, ih () Q E p _ (by rw [update_size]; exact hn) h.2⟩
  | loadIfAlive a k ih => intro Q E p s hn h; exact ih _ Q E p s hn h
  | point _ k ih => intro Q E p s hn h; exact ih () Q E p s hn h
  | register _ _ => intro Q E p s _ h; exact h
  | alloc o k ih => intro Q E p s hn h; exact ih _ Q E p _ (by rw [Heap.size_push]; exact Nat.le_succ_of_le hn) h
  | fresh k ih => intro Q E p s hn h; exact ih _ Q E p _ hn h
  | ask k ih => intro Q E p s hn h; exact ih _ Q E p s hn h
  | choose src m k ih => intro Q E p s hn h; exact ⟨h.1, ih _ Q E p _ hn h.2⟩
  | os q _ k ih => intro Q E p s hn h; exact ih _ Q E p _ hn h
  | call c hd _ _ k ih => intro Q E p s hn h; obtain ⟨r, s', hr, h⟩ := h; exact ⟨r, s', hr, ih r Q E p s' (Nat.le_trans hn (runs_size hr)) h⟩
  | handled own k ih => intro Q E p s hn h; exact ih _ Q E p s hn h
  | genState g k ih => intro Q E p s hn h; obtain ⟨st, hs, h⟩ := h; exact ⟨st, hs, ih _ Q E p s hn h⟩
  | newGen c k ih => intro Q E p s hn h; exact ih _ Q E p _ hn h
  | resume g r _ k ih => intro Q E p s hn h; obtain ⟨res, s', hw, h⟩ := h; exact ⟨res, s', hw, ih res Q E p s' (Nat.le_trans hn (wakes_size hw)) h⟩
  | yield _ _ _ _ => intro Q E p s _ h; exact h
  | stack k ih => intro Q E p s hn h; exact ih _ Q E p s hn h
  | fork _ _ => intro Q E p s _ h; exact h
  | thread k ih => intro Q E p s hn h; exact ih _ Q E p s hn h
  | await _ _ _ _ _ => intro Q E p s _ h; exact h

theorem with_size {α : Type} {M : Model} {A : Around} {s : Shared} {t : Sem α} {Q : α → Shared → Prop} {E : Value → Shared → Prop}
    (h : wpAny M A t (fun a s' => s.heap.objs.size ≤ s'.heap.objs.size → Q a s') E s) : wpAny M A t Q E s :=
  fun Γ p hΓ => Sem.wp_mono M Γ t (fun _ _ _ x => x.2 x.1) (fun _ _ _ x => x.2) p s (wp_size M Γ _ t _ _ p s (Nat.le_refl _) (h Γ p hΓ))
end Mine

end

section
open PySem PySem.W PyProof.Rows
namespace Mine
open Sem (wp)
section
variable {M : Model} {A : Around} {R : GenEnd} {Y : Protocol} {n : Nat} {s₀ : Shared} {c : Code} {fs : List Frame} {s : Shared} {env : Env}
  {K : Flow → Sem Fin} {H : Value → Sem Fin} {gd : Bool → Bool} {lv : List Value → List Value}

theorem seg_If {test : PySem.Expr} {body orelse : List Stmt} {pos : Pos}
    (h : wpAny M (A.over c fs) (isTrue test env (eval test env)) (fun b s' => if b = true then Seg M A R Y n s₀ c ((execs body env).wrap K H gd lv) fs s'
        else Seg M A R Y n s₀ c ((execs orelse env).wrap K H gd lv) fs s') (fun x s' => Seg M A R Y n s₀ c (H x) fs s') s) :
    Seg M A R Y n s₀ c ((exec (.If test body orelse pos) env).wrap K H gd lv) fs s := by
  rw [exec_If]
  refine seg_bind_wrap (wpAny_standAt ?_)
  refine seg_bind_wrap (wpAny_mono h (fun b s' hb => ?_) fun _ _ x => x)
  cases b with
  | true => exact hb
  | false => exact hb

theorem seg_plain {st : Stmt} (h : wpAny M (A.over c fs) (exec st env) (fun f s' => Seg M A R Y n s₀ c (K f) fs s') (fun x s' => Seg M A R Y n s₀ c (H x) fs s') s) :
    Seg M A R Y n s₀ c ((exec st env).wrap K H gd lv) fs s := seg_wrap h

theorem seg_For {target iter : PySem.Expr} {body orelse : List Stmt} {pos : Pos}
    (h : wpAny M (A.over c fs) (eval iter env) (fun x s₁ => wpAny M (A.over c fs) (pyIter x) (fun it s₂ =>
      ∀ p, Seg M A R Y n s₀ (.forLoop target it body orelse env) (M.den (.forLoop target it body orelse env))
        (.ret (fun r => ((match r with | .ok f => (.pure f : Sem Flow) | .error e => .raise e).onRaise fun (x : Value) => do
        if (← field x 1) == Value.none then unsupported "frame.own-activation:exception-without-traceback"
        setFlight x env.frame).wrap K H gd lv) none (gd false) (lv []) c p [] :: fs) s₂)
        (fun x s' => Seg M A R Y n s₀ c (H x) fs s') s₁) (fun x s' => Seg M A R Y n s₀ c (H x) fs s') s)
    (hs : ∀ x, foldedSetIterable iter env x = pure x := by intro _; rfl) :
    Seg M A R Y n s₀ c ((exec (.For target iter body orelse pos) env).wrap K H gd lv) fs s := by
  rw [exec_For]
  refine seg_bind_wrap (wpAny_standAt ?_)
  refine seg_bind_wrap (wpAny_mono h (fun x s₁ h₁ => ?_) fun _ _ x => x)
  refine seg_bind_wrap (wpAny_of_eq (hs x) ?_)
  refine seg_bind_wrap (wpAny_standAt ?_)
  refine seg_bind_wrap (wpAny_holding (wpAny_mono h₁ (fun it s₂ h₂ => ?_) fun _ _ x => x))
  exact seg_call h₂
end
section
variable {prog : Program} {w : World} {A : Around} {R : GenEnd} {Y : Protocol} {n : Nat} {s₀ : Shared} {fs : List Frame} {s : Shared} {env : Env}

noncomputable abbrev loopK (target : PySem.Expr) (it : Value) (body orelse : List Stmt) (env : Env) : Flow → Sem Fin := fun f => match f with
  | .next | .cont => .pure (.again (.forLoop target it body orelse env))
  | .brk => .pure (.done .next)
  | .ret v => .pure (.done (.ret v))
noncomputable abbrev loopH (env : Env) : Value → Sem Fin := fun e => (do noteFrame e env; theTreesLotGoes e : Sem Unit).wrap (fun _ => .raise e) .raise id id

theorem seg_forTurn {target : PySem.Expr} {it : Value} {body orelse : List Stmt}
    (h : wpAny (model prog w) (A.over (.forLoop target it body orelse env) fs) (pyNext it) (fun r s₁ => match r with
      | none => Seg (model prog w) A R Y n s₀ (.forLoop target it body orelse env) (.pure (.again (.block orelse env))) fs s₁
      | some v => wpAny (model prog w) (A.over (.forLoop target it body orelse env) fs) (letOwnedTupleGo target it v) (fun _ s₂ =>
          wpAny (model prog w) (A.over (.forLoop target it body orelse env) fs) (assign target env v) (fun _ s₃ =>
            Seg (model prog w) A R Y n s₀ (.forLoop target it body orelse env) ((execs body env).wrap (loopK target it body orelse env) (loopH env) id id) fs s₃)
          (fun _ _ => False) s₂) (fun _ _ => False) s₁) (fun _ _ => False) s) :
    Seg (model prog w) A R Y n s₀ (.forLoop target it body orelse env) ((model prog w).den (.forLoop target it body orelse env)) fs s := by
  show Seg _ A R Y n s₀ _ ((forTurn target it body orelse env).onRaise (fun x => do noteFrame x env; theTreesLotGoes x)) fs s
  unfold forTurn
  rw [Sem.onRaise_eq_wrap]
  refine seg_bind_wrap (wpAny_standAt ?_)
  refine seg_bind_wrap (wpAny_onRaise (wpAny_mono h (fun r s₁ h₁ => ?_) fun _ _ x => x.elim))
  cases r with
  | none => exact h₁
  | some v =>
    refine seg_bind_wrap (wpAny_mono h₁ (fun _ s₂ h₂ => ?_) fun _ _ x => x.elim)
    refine seg_bind_wrap (wpAny_mono h₂ (fun _ s₃ h₃ => ?_) fun _ _ x => x.elim)
    rw [Sem.bind_eq_wrap', Sem.wrap_wrap]
    rw [Sem.wrap_congr (execs body env) _ _ (K' := loopK target it body orelse env) (H' := loopH env)
        (fun f => by cases f <;> rfl) (fun e => by first | exact Sem.bind_eq_wrap _ _ | (show (do noteFrame e env; theTreesLotGoes e : Sem Unit).bind (fun _ => .raise e) = _; rw [Sem.bind_eq_wrap]))]
    exact h₃

theorem seg_block_nil (h : Seg (model prog w) A R Y n s₀ (.block [] env) (.pure (.done .next)) fs s) :
    Seg (model prog w) A R Y n s₀ (.block [] env) ((model prog w).den (.block [] env)) fs s := h
end
end Mine

end

section
open PySem PySem.W PyProof.Rows
namespace Mine
open Sem (wp)

noncomputable def stm : List Stmt := PySem.Challenge.pw_rs0061_01.main.body
noncomputable def fnBody (k : Nat) : List Stmt := match stm.drop k with
  | .FunctionDef _ _ b _ _ _ _ _ _ _ :: _ => b
  | _ => []
noncomputable def fnScope (k : Nat) : Scope := match stm.drop k with
  | .FunctionDef _ _ _ _ _ _ sc _ _ _ :: _ => sc
  | _ => default
noncomputable abbrev PR : Program := PySem.Challenge.rw_rs0061_01.row.prog

/-- what the generator of escaped signs yields: the place and the signs -/
noncomputable def escs : List Nat → Nat → Bool → List (Nat × List Nat)
  | [], i, b => if b then [(i - 1, [92])] else []
  | c :: r, i, true => (i, [92, c]) :: escs r (i + 1) false
  | c :: r, i, false => if c = 92 then escs r (i + 1) true else (i, [c]) :: escs r (i + 1) false

structure GBase (w : World) (h : Heap) : Prop where
  X : (hd.heap_39 w.params).In h
  T : ∃ mean mg mb, Top hd.view_39 (looseW hd.view_39 []) mean mg mb h
theorem GBase.keeps {w : World} {h h' : Heap} (G : GBase w h) (k : ∀ b o, h.get? b = some o → h'.get? b = some o) : GBase w h' :=
  ⟨G.X.keeps k, let ⟨mean, mg, mb, T⟩ := G.T; ⟨mean, mg, mb, T.keeps k⟩⟩

section
variable {w : World} {A : Around} {E : Value → Shared → Prop} {s : Shared}

theorem pyNext_genQ {prog : Program} {a : Addr} {g n : Nat} {gs : GenState} {P : Nat → Shared → Shared → Prop} {Y : Protocol} {Q : Option Value → Shared → Prop} (hh : A.handled = none)
    (hl : s.heap.NoLimit) (hroom : A.depth < recursionLimit)
    (hg : s.heap.IsGen a g) (hgs : s.gens[g]? = some gs)
    (hgo : gs.Goes (model prog w) A.in1 (fun n s₀ r s₁ => r = .ok (.ret .none) ∧ P n s₀ s₁) Y n (.send .none) (s.setGen g .running))
    (hY : ∀ v s₁ gs', gs'.bare = true → Y (n - 1) (s.setGen g .running) v s₁ (fun r' s'' => match n with
        | 0 => False
        | m + 1 => gs'.Goes (model prog w) A.in1 (fun n s₀ r s₁ => r = .ok (.ret .none) ∧ P n s₀ s₁) Y m r' s'') → Q (some v) (s₁.setGen g gs'))
    (hP : ∀ s₁, P n (s.setGen g .running) s₁ → ∀ h', (∀ b o, s₁.heap.get? b = some o → h'.get? b = some o) → Q none { s₁.setGen g .finished with heap := h' }) :
    wpAny (model prog w) A (pyNext (.ref a)) Q E s := by
  unfold pyNext
  refine wpAny_bind (wpAny_attempt (wpAny_callSpecial?_slot (name := Str.ofString "__next__") hg.typeIs slot_gen_next
    (wpAny_call_entry slot_gen_next hg.typeIs entry_gen_next ?_ (args_gen_next _))))
  show wpAny _ A.in1 (Builtin.Generator.genWake (.ref a) (.send .none)) _ _ s
  unfold Builtin.Generator.genWake
  refine wpAny_bind (wpAny_holding (wpAny_genNumber hg (wpAny_bind (wpAny_genState hgs ?_))))
  cases gs with
  | running => exact hgo.elim
  | finished => exact hgo.elim
  | _ =>
    refine wpAny_bind (wpAny_roomToWake hl hroom ?_)
    show wpAny _ A.in1 (.resume g (.send .none) [] _) _ _ s
    refine wpAny_resumeQ hgs hgo (fun x s₁ hx => ?_) (fun v s₁ gs' hb hv => ?_)
    · obtain ⟨rfl, hp⟩ := hx
      show wpAny _ A.in1 (newExc (.type "StopIteration") [] >>= _) _ _ _
      refine wpAny_bind ?_
      simp only [newExc, newTuple]
      refine wpAny_bind (wpAny_newObj_type ?_ (by size_fits))
      refine wpAny_bind (m := firstArgMember _ _) (wpAny_of_eq (a := Value.none) (by first | rfl | (simp only [firstArgMember]; rfl)) ?_)
      refine wpAny_newObj_type ?_ (by size_fits)
      simp only [raiseNew]
      refine wpAny_bind (wpAny_bind (wpAny_handled ?_))
      rw [show A.in1.handled = none from hh]
      refine wpAny_throw ?_
      refine wpAny_bind (wpAny_isInstance (T := "StopIteration") (b := true) ⟨_, Heap.get?_push_size _ rfl, rfl⟩ isSubtype_stop ?_)
      exact wpAny_pure (hP s₁ hp _ fun b o hb => Heap.get?_push_of_some _ (Heap.get?_push_of_some _ hb))
    · exact wpAny_pure ⟨v, rfl, wpAny_pure (hY v s₁ gs' hb hv)⟩
end

noncomputable abbrev tupO (vs : List Value) : Obj := { cls := .type "tuple", data := .seq vs.toArray }
noncomputable abbrev escTup (p : Nat × List Nat) (t u : Tok) : Obj := tupO [.int p.1 t, .str ⟨p.2.toArray⟩ u]
noncomputable def Own (own : List (Addr × Obj)) (h : Heap) : Prop := ∀ p ∈ own, h.get? p.1 = some p.2
noncomputable def Grew (own : List Addr) (h h' : Heap) : Prop := ∀ b o, b ∉ own → h.get? b = some o → h'.get? b = some o

/-- a generator that will yield `todo`; `own` are objects of its own, `wr` the places that it may change -/
noncomputable def GenSt (w : World) (A : Around) : List (Nat × List Nat) → GenState → List (Addr × Obj) → List Addr → Prop
  | [], gs, own, wr => gs.bare = true ∧ ∀ (s : Shared) (a : Addr) (g : Nat) (Q : Option Value → Shared → Prop) (E : Value → Shared → Prop), GBase w s.heap → s.heap.IsGen a g → s.gens[g]? = some gs → Own own s.heap →
      (∀ h' tk, Grew wr s.heap h' → Q none ⟨h', s.gens.setIfInBounds g .finished, s.drawn, tk, s.os⟩) → wpAny (model PR w) A (pyNext (.ref a)) Q E s
  | p :: rest, gs, own, wr => gs.bare = true ∧ ∀ (s : Shared) (a : Addr) (g : Nat) (Q : Option Value → Shared → Prop) (E : Value → Shared → Prop), GBase w s.heap → s.heap.IsGen a g → s.gens[g]? = some gs → Own own s.heap →
      (∀ T t u own' wr' gs' h' tk, GenSt w A rest gs' own' wr' → Own own' h' → (∀ q ∈ own', q.1 ∈ wr') → (∀ b ∈ wr', b ∈ wr ∨ s.heap.objs.size ≤ b) → h'.get? T = some (escTup p t u) → s.heap.objs.size ≤ T → T ∉ wr' →
        Grew wr s.heap h' → Q (some (.ref T)) ⟨h', s.gens.setIfInBounds g gs', s.drawn, tk, s.os⟩) → wpAny (model PR w) A (pyNext (.ref a)) Q E s

noncomputable def Since (own : List Addr) (s₀ s : Shared) : Prop :=
  ∃ h tk, s = { s₀ with heap := h, toks := tk } ∧ Grew own s₀.heap h ∧ s₀.heap.objs.size ≤ h.objs.size
theorem Since.refl (own : List Addr) (s : Shared) : Since own s s := ⟨s.heap, s.toks, rfl, fun _ _ _ e => e, Nat.le_refl _⟩
theorem Since.step {own : List Addr} {s₀ s : Shared} (x : Since own s₀ s) {h' : Heap} {tk : Nat} (hk : Grew own s.heap h') (hz : s.heap.objs.size ≤ h'.objs.size) : Since own s₀ { s with heap := h', toks := tk } := by
  obtain ⟨h₁, tk₁, rfl, hk₁, hz₁⟩ := x
  exact ⟨h', tk, rfl, fun b o hb e => hk b o hb (hk₁ b o hb e), Nat.le_trans hz₁ hz⟩

/-- the protocol: `wr` are the addresses of the frame, the iterator, the enumerate -/
noncomputable def YP (all : List (Nat × List Nat)) (wr : List Addr) : Protocol := fun m s₀ v s kap =>
  ∃ p T t u rest l, (∃ pre, all = pre ++ p :: rest) ∧ rest.length = m ∧ v = .ref T ∧ s.heap.get? T = some (escTup p t u) ∧ T ∉ wr ∧ s₀.heap.objs.size ≤ T ∧
    (∀ q ∈ l, q.1 ∈ wr) ∧ Own l s.heap ∧ Since wr s₀ s ∧ ∀ s'' : Shared, Own l s''.heap → kap (.send .none) s''
noncomputable abbrev RP (wr : List Addr) : GenEnd := fun n s₀ r s₁ => r = .ok (.ret .none) ∧ (n = 0 ∧ Since wr s₀ s₁)

theorem suffix_eq {α : Type} {all pre pre' l l' : List α} (h : all = pre ++ l) (h' : all = pre' ++ l') (hl : l.length = l'.length) : l = l' := by
  have e := h.symm.trans h'
  have hp : pre.length = pre'.length := by
    have := congrArg List.length e
    simp only [List.length_append] at this; omega
  exact (List.append_inj e hp).2

/-- a generator that goes on by the protocol: one step, with what comes behind -/
theorem genSt_step {w : World} {A : Around} (hh : A.handled = none) (hroom : A.depth < recursionLimit) {all : List (Nat × List Nat)} {p : Nat × List Nat} {rest : List (Nat × List Nat)} {wr : List Addr} {gs : GenState} (hpre : ∃ pre, all = pre ++ p :: rest)
    (ih : ∀ gs' l, gs'.bare = true → (∀ q ∈ l, q.1 ∈ wr) → (∀ s'' : Shared, Own l s''.heap → gs'.Goes (model PR w) A.in1 (RP wr) (YP all wr) rest.length (.send .none) s'') → GenSt w A rest gs' l wr)
    {s : Shared} {a : Addr} {g : Nat} {Q : Option Value → Shared → Prop} {E : Value → Shared → Prop} (G : GBase w s.heap) (hg : s.heap.IsGen a g) (hgs : s.gens[g]? = some gs)
    (hgo : gs.Goes (model PR w) A.in1 (RP wr) (YP all wr) (rest.length + 1) (.send .none) (s.setGen g .running))
    (hQ : ∀ T t u own' gs' h' tk, GenSt w A rest gs' own' wr → Own own' h' → (∀ q ∈ own', q.1 ∈ wr) → h'.get? T = some (escTup p t u) → s.heap.objs.size ≤ T → T ∉ wr →
        Grew wr s.heap h' → Q (some (.ref T)) ⟨h', s.gens.setIfInBounds g gs', s.drawn, tk, s.os⟩) : wpAny (model PR w) A (pyNext (.ref a)) Q E s := by
  refine pyNext_genQ (n := rest.length + 1) (P := fun n s₀ s₁ => n = 0 ∧ Since wr s₀ s₁) (Y := YP all wr) hh (let ⟨_, _, _, T⟩ := G.T; T.nolimit) hroom hg hgs hgo (fun v s₁ gs' hb' hv => ?_) (fun s₁ hp h' hk => ?_)
  · obtain ⟨p', T, t, u, rest', l, ⟨pre', hpre'⟩, hlen, rfl, hT, hTo, hTs, hlw, hlO, ⟨h₁, tk₁, rfl, hk₁, _⟩, hkap⟩ := hv
    obtain ⟨pre, hpre⟩ := hpre
    have hl' : (p :: rest) = (p' :: rest') := suffix_eq hpre hpre' (by simp only [List.length_cons]; omega)
    cases hl'
    have st := ih gs' l hb' hlw fun s'' hO'' => hkap s'' hO''
    have := hQ T t u l gs' h₁ tk₁ st hlO hlw hT hTs hTo hk₁
    simpa [Shared.setGen, Array.setIfInBounds_setIfInBounds] using this
  · exact absurd hp.1 (Nat.succ_ne_zero _)
theorem genSt_last {w : World} {A : Around} (hh : A.handled = none) (hroom : A.depth < recursionLimit) {all : List (Nat × List Nat)} {wr : List Addr} {gs : GenState}
    {s : Shared} {a : Addr} {g : Nat} {Q : Option Value → Shared → Prop} {E : Value → Shared → Prop} (G : GBase w s.heap) (hg : s.heap.IsGen a g) (hgs : s.gens[g]? = some gs)
    (hgo : gs.Goes (model PR w) A.in1 (RP wr) (YP all wr) 0 (.send .none) (s.setGen g .running))
    (hQ : ∀ h' tk, Grew wr s.heap h' → Q none ⟨h', s.gens.setIfInBounds g .finished, s.drawn, tk, s.os⟩) : wpAny (model PR w) A (pyNext (.ref a)) Q E s := by
  refine pyNext_genQ (n := 0) (P := fun n s₀ s₁ => n = 0 ∧ Since wr s₀ s₁) (Y := YP all wr) hh (let ⟨_, _, _, T⟩ := G.T; T.nolimit) hroom hg hgs hgo (fun v s₁ gs' _ hv => ?_) (fun s₁ hp h' hk => ?_)
  · obtain ⟨_, _, _, _, _, l, _, _, _, _, _, _, _, hO, _, hkap⟩ := hv
    exact False.elim (hkap s₁ hO)
  · obtain ⟨_, h₁, tk₁, rfl, hk₁, _⟩ := hp
    have := hQ h' tk₁ (fun b o hb e => hk b o (hk₁ b o hb e))
    simpa [Shared.setGen, Array.setIfInBounds_setIfInBounds] using this

theorem genSt_of_goes {w : World} {A : Around} (hh : A.handled = none) (hroom : A.depth < recursionLimit) {all : List (Nat × List Nat)} {wr : List Addr} :
    ∀ (todo : List (Nat × List Nat)) (gs : GenState) (l : List (Addr × Obj)), (∃ pre, all = pre ++ todo) → gs.bare = true → (∀ q ∈ l, q.1 ∈ wr) →
      (∀ s'' : Shared, Own l s''.heap → gs.Goes (model PR w) A.in1 (RP wr) (YP all wr) todo.length (.send .none) s'') → GenSt w A todo gs l wr := by
  intro todo
  induction todo with
  | nil => exact fun gs l _ hb _ hgo => ⟨hb, fun s a g Q E G hg hgs hO hQ => genSt_last hh hroom G hg hgs (hgo _ hO) hQ⟩
  | cons p rest ih =>
    exact fun gs l hpre hb _ hgo => ⟨hb, fun s a g Q E G hg hgs hO hQ => genSt_step hh hroom hpre
      (fun gs' l' hb' hlw' hgo' => ih gs' l' (let ⟨pre, e⟩ := hpre; ⟨pre ++ [p], by rw [e]; simp⟩) hb' hlw' hgo') G hg hgs (hgo _ hO)
      (fun T t u own' gs' h' tk st hO' hw hT hTs hTo hG => hQ T t u own' wr gs' h' tk st hO' hw (fun b hb => .inl hb) hT hTs hTo hG)⟩

end Mine

end

section
open PySem PySem.W PyProof.Rows
namespace Mine
open Sem (wp)

noncomputable def nth (l : List Stmt) (k : Nat) : Stmt := match l.drop k with
  | a :: _ => a
  | [] => .Pass default
noncomputable def loopT : Stmt → PySem.Expr
  | .For t _ _ _ _ => t
  | _ => .Constant .none 0 default
noncomputable def loopB : Stmt → List Stmt
  | .For _ _ b _ _ => b
  | _ => []
noncomputable abbrev genEnv77 (C : Addr) : Env := envOf (Str.ofString "_iter_escaped_chars") (fnScope 5) C 77 (.ref 76)

theorem draws_str {prog : Program} {w : World} {A : Around} (hh : A.handled = none) (it : Addr) (x : Str) (t : Tok) :
    Draws prog w A it [it] x.cps.size (fun i v => ∃ c u, x.cps[i]? = some c ∧ v = .str ⟨#[c]⟩ u) (fun i h => h.IsStrIter it (strIterType x) x t i) := by
  cases ha : x.cps.all (· < 128)
  · rw [show strIterType x = "str_iterator" by simp [strIterType, ha]]; exact Draws.strWide hh it x t
  · rw [show strIterType x = "str_ascii_iterator" by simp [strIterType, ha]]; exact Draws.strAscii hh it x t

structure LS (x : Str) (t : Tok) (C it e : Addr) (i : Nat) (b : Bool) (h : Heap) : Prop where
  ns : ∃ m, h.Ns C m ∧ (∃ tp, m (Str.ofString "pos") = some (.int ((i - 1 : Nat) : Int) tp)) ∧ m (Str.ofString "escape") = some (.bool b)
  en : ∃ old, IsEnum h e it i old
  si : h.IsStrIter it (strIterType x) x t i
theorem LS.frame {x : Str} {t : Tok} {C it e : Addr} {i : Nat} {b : Bool} {h h' : Heap} (l : LS x t C it e i b h) (k : ∀ a ∈ [C, it, e], ∀ o, h.get? a = some o → h'.get? a = some o) : LS x t C it e i b h' where
  ns := let ⟨m, hn, r⟩ := l.ns; ⟨m, hn.at' fun o ho => k C (by simp) o ho, r⟩
  en := let ⟨old, ho⟩ := l.en; ⟨old, k e (by simp) _ ho⟩
  si := let ⟨o, ho, r⟩ := l.si; ⟨o, k it (by simp) o ho, r⟩
theorem LS.ex {x : Str} {t : Tok} {C it e : Addr} {i : Nat} {b : Bool} {h : Heap} (l : LS x t C it e i b h) : ∀ a ∈ [C, it, e], ∃ o, h.get? a = some o := by
  intro a ha
  simp only [List.mem_cons, List.not_mem_nil, or_false] at ha
  rcases ha with rfl | rfl | rfl
  · obtain ⟨m, ⟨o, _, _, ho, _⟩, _⟩ := l.ns; exact ⟨o, ho⟩
  · obtain ⟨o, ho, _⟩ := l.si; exact ⟨o, ho⟩
  · obtain ⟨old, ho⟩ := l.en; exact ⟨_, ho⟩

section
variable {w : World} {A : Around} {x : Str} {t : Tok} {C it e : Addr} {fs : List Frame} {E : Value → Shared → Prop} {s : Shared}

theorem ldc {A : Around} {y : Str} {pos : Pos} {v : Value} {m : Str → Option Value} {Q : Value → Shared → Prop} (hn : s.heap.Ns C m) (hv : m y = some v) (h : Q v s) (hk : (genEnv77 C).kindOf y = some .local) (hd : (y == ("__debug__" : Str)) = false) :
    wpAny (model PR w) A (eval (.Name y pos) (genEnv77 C)) Q E s := wpAny_Name (wpAny_loadName_local (by kernel_rfl) hk hn hv h) hd
theorem stc {A : Around} {y : Str} {v : Value} {m : Str → Option Value} {Q : Unit → Shared → Prop} (hn : s.heap.Ns C m)
    (h : ∀ h', h'.Ns C (fun z => if z = y then some v else m z) → Heap.SameBut C s.heap h' → Q () { s with heap := h', toks := s.toks + 1 }) (hk : (genEnv77 C).kindOf y = some .local) :
    wpAny (model PR w) A (storeName (genEnv77 C) y v) Q E s := wpAny_storeName_local hk hn h (by kernel_rfl)

theorem k_pos : (genEnv77 C).kindOf (Str.ofString "pos") = some .local := by kernel_rfl
theorem k_ch : (genEnv77 C).kindOf (Str.ofString "ch") = some .local := by kernel_rfl
theorem k_esc : (genEnv77 C).kindOf (Str.ofString "escape") = some .local := by kernel_rfl
theorem k_addr : (genEnv77 C).kindOf (Str.ofString "addr") = some .local := by kernel_rfl
theorem ne_pos_ch : (Str.ofString "pos" : Str) ≠ Str.ofString "ch" := by decide
theorem ne_esc_ch : (Str.ofString "escape" : Str) ≠ Str.ofString "ch" := by decide
theorem ne_esc_pos : (Str.ofString "escape" : Str) ≠ Str.ofString "pos" := by decide

theorem grew_same {own : List Addr} {a : Addr} {h h' : Heap} (ha : a ∈ own) (hs : Heap.SameBut a h h') : Grew own h h' := fun b o hb e => (hs.2 b fun q => hb (q ▸ ha)).trans e
theorem grew_ext {own : List Addr} {h h' : Heap} (k : ∀ b o, h.get? b = some o → h'.get? b = some o) : Grew own h h' := fun b o _ e => k b o e
theorem Grew.trans {own : List Addr} {h h' h'' : Heap} (x : Grew own h h') (y : Grew own h' h'') : Grew own h h'' := fun b o hb e => y b o hb (x b o hb e)

/-- the yield of a pair, and what comes behind it: `l` is what must stand meanwhile -/
theorem seg_yield_pair {all : List (Nat × List Nat)} {c : Code} {K : Flow → Sem Fin} {H : Value → Sem Fin} {ex : PySem.Expr} {ypos pos : Pos} {n : Nat} {s₀ : Shared} {p : Nat × List Nat} {rest : List (Nat × List Nat)} {wr : List Addr} {l : List (Addr × Obj)}
    (hfs : splitAtGen fs = none) (hfg : fs.any Frame.guarded = false) (hall : ∃ pre, all = pre ++ p :: rest) (hn : n = rest.length) (hsi : Since wr s₀ s) (hlw : ∀ q ∈ l, q.1 ∈ wr) (hl : Own l s.heap) (hlt : ∀ a ∈ wr, a < s.heap.objs.size)
    (hev : ∀ (Q : Value → Shared → Prop), (∀ u v tk, Q (.ref s.heap.objs.size) { s with heap := s.heap.push (escTup p u v), toks := tk }) → wpAny (model PR w) (A.over c fs) (eval ex (genEnv77 C)) Q (fun y s' => Seg (model PR w) A (RP wr) (YP all wr) (n + 1) s₀ c (H y) fs s') s)
    (hk : ∀ s'', Own l s''.heap → Seg (model PR w) A (RP wr) (YP all wr) n s'' c (K .next) fs s'') :
    Seg (model PR w) A (RP wr) (YP all wr) (n + 1) s₀ c ((exec (.Expr (.Yield (some ex) ypos) pos) (genEnv77 C)).wrap K H id id) fs s := by
  refine seg_Expr_Yield hfs rfl hfg (hev _ fun u v tk kap hkap => ?_) (by kernel_rfl) (by kernel_rfl)
  refine ⟨p, s.heap.objs.size, u, v, rest, l, hall, hn.symm, rfl, Heap.get?_push_size _ rfl, fun hm => absurd (hlt _ hm) (Nat.lt_irrefl _), ?_, hlw, (fun q hq => Heap.get?_push_of_some _ (hl q hq)), ?_, fun s'' hal => ?_⟩
  · obtain ⟨h₁, tk₁, rfl, _, hz⟩ := hsi; exact hz
  · exact hsi.step (grew_ext fun b o ho => Heap.get?_push_of_some _ ho) (by rw [Heap.size_push]; exact Nat.le_succ _)
  · exact hkap .none s'' (hk s'' hal)

theorem LS.own {x : Str} {t : Tok} {C it e : Addr} {i : Nat} {b : Bool} {h : Heap} (l : LS x t C it e i b h) : ∃ own : List (Addr × Obj), (∀ q ∈ own, q.1 ∈ [C, it, e]) ∧ Own own h ∧ (∀ h', Own own h' → LS x t C it e i b h') ∧ ∀ a ∈ [C, it, e], a < h.objs.size := by
  obtain ⟨m, ⟨oC, es, ep, hC, rC⟩, hm⟩ := l.ns
  obtain ⟨old, he⟩ := l.en
  obtain ⟨oi, hi, ri⟩ := l.si
  obtain ⟨oe, hoe⟩ : ∃ oe, oe = ({ cls := .type "enumerate", dict := none, data := .fields #[.none, .bool false, .ref it, rawInt i, .none, old], slots := #[] } : Obj) := ⟨_, rfl⟩
  replace he : h.get? e = some oe := hoe ▸ he
  refine ⟨[(C, oC), (it, oi), (e, oe)], ?_, ?_, fun h' O => ⟨⟨m, ⟨oC, es, ep, O (C, oC) (by simp), rC⟩, hm⟩, ⟨old, by rw [IsEnum, ← hoe]; exact O (e, oe) (by simp)⟩, ⟨oi, O (it, oi) (by simp), ri⟩⟩, ?_⟩
  · intro q hq
    simp only [List.mem_cons, List.not_mem_nil, or_false] at hq ⊢
    rcases hq with rfl | rfl | rfl <;> simp
  · intro q hq
    simp only [List.mem_cons, List.not_mem_nil, or_false] at hq
    rcases hq with rfl | rfl | rfl
    · exact hC
    · exact hi
    · exact he
  · intro a ha
    simp only [List.mem_cons, List.not_mem_nil, or_false] at ha
    rcases ha with rfl | rfl | rfl
    · exact Heap.lt_size hC
    · exact Heap.lt_size hi
    · exact Heap.lt_size he

theorem beq_bs (c : Nat) : ((⟨#[c]⟩ : Str) == Str.ofString "\\") = decide (c = 92) := by
  rw [show Str.ofString "\\" = ⟨#[92]⟩ from by decide]
  by_cases h : c = 92
  · subst h; rfl
  · have : (⟨#[c]⟩ : Str) ≠ ⟨#[92]⟩ := fun e => h (by cases e; rfl)
    simp [h, this]

/-- the loop of the generator, at place i with the flag b -/
theorem seg_loop {all : List (Nat × List Nat)} (hfsh : ∀ c, (A.over c fs).handled = none) (hfs : splitAtGen fs = none) (hfg : fs.any Frame.guarded = false) (hCi : C ≠ it) (hCe : C ≠ e) (hei : e ≠ it)
    (hEnd : ∀ b s₀ s m, (b = true → 1 ≤ x.cps.size) → s.heap.Ns C m → (∃ tp, m (Str.ofString "pos") = some (.int ((x.cps.size - 1 : Nat) : Int) tp)) → m (Str.ofString "escape") = some (.bool b) → (∀ a ∈ [C, it, e], a < s.heap.objs.size) → Since [C, it, e] s₀ s → (∃ pre, all = pre ++ escs [] x.cps.size b) →
      Seg (model PR w) A (RP [C, it, e]) (YP all [C, it, e]) (escs [] x.cps.size b).length s₀ (.forLoop (loopT (nth (fnBody 5) 2)) (.ref e) (loopB (nth (fnBody 5) 2)) [] (genEnv77 C)) (.pure (.again (.block [] (genEnv77 C)))) fs s) :
    ∀ (k i : Nat) (b : Bool) (s₀ s : Shared), x.cps.size - i = k → i ≤ x.cps.size → (b = true → 1 ≤ i) → LS x t C it e i b s.heap → Since [C, it, e] s₀ s → (∃ pre, all = pre ++ escs (x.cps.toList.drop i) i b) →
      Seg (model PR w) A (RP [C, it, e]) (YP all [C, it, e]) (escs (x.cps.toList.drop i) i b).length s₀ (.forLoop (loopT (nth (fnBody 5) 2)) (.ref e) (loopB (nth (fnBody 5) 2)) [] (genEnv77 C))
        ((model PR w).den (.forLoop (loopT (nth (fnBody 5) 2)) (.ref e) (loopB (nth (fnBody 5) 2)) [] (genEnv77 C))) fs s := by
  have hlen : x.cps.toList.length = x.cps.size := Array.length_toList
  have WT : ∀ c, WalksT PR w (A.over c fs) e [e, it] [e, it] x.cps.size _ _ _ := fun c => WalksT.enumerateD (draws_str (prog := PR) (w := w) (A := (A.over c fs).in1) (hfsh c) it x t) e hei (by simpa using hei) (by simp)
  have wrG : ∀ {h h' : Heap}, (∀ b o, b ∉ [e, it] → h.get? b = some o → h'.get? b = some o) → Grew [C, it, e] h h' := fun k b o hb e => k b o (fun hm => hb (by simp only [List.mem_cons, List.not_mem_nil, or_false] at hm ⊢; rcases hm with r | r <;> simp [r])) e
  intro k
  induction k with
  | zero =>
    intro i b s₀ s hk hi hb ls hsi hall
    have hi' : i = x.cps.size := by omega
    subst hi'
    rw [List.drop_of_length_le (by omega)] at hall ⊢
    obtain ⟨m, hn, hp, hes⟩ := ls.ns
    refine seg_forTurn (with_size ((WT _).done s _ _ ⟨ls.en, ls.si⟩ fun h' tk hk' hz => ?_))
    have hn' : h'.Ns C m := hn.at' fun o ho => hk' C o (by simp [hCi, hCe]) ho
    exact hEnd b s₀ _ m hb hn' hp hes (fun a ha => let ⟨o, ho⟩ := ls.ex a ha; Nat.lt_of_lt_of_le (Heap.lt_size ho) hz) (hsi.step (wrG hk') hz) hall
  | succ k ih =>
    intro i b s₀ s hk hi hb ls hsi hall
    have hlt : i < x.cps.size := by omega
    obtain ⟨m, hn, hp, hes⟩ := ls.ns
    have hdrop : x.cps.toList.drop i = x.cps[i] :: x.cps.toList.drop (i + 1) := by
      rw [List.drop_eq_getElem_cons (by omega)]; simp
    refine seg_forTurn (with_size ((WT _).item i s _ _ hlt ⟨ls.en, ls.si⟩ fun T vals h₁ tk₁ hP hT hTup hMid hk₁ hz₁ => ?_))
    refine with_size ((WT _).go _ _ _ i T _ _ _ hMid fun h₂ st₂ hk₂ hz₂ => ?_)
    obtain ⟨ti, v, ⟨c, u, hc, rfl⟩, rfl⟩ := hP
    have hc' : x.cps[i] = c := by rw [Array.getElem?_eq_getElem hlt] at hc; exact Option.some.inj hc
    have hTup₂ : h₂.IsTuple T #[.int i ti, .str ⟨#[c]⟩ u] := by
      obtain ⟨o, ho, r⟩ := hTup
      exact ⟨o, hk₂ T o ((WT (.forLoop (loopT (nth (fnBody 5) 2)) (.ref e) (loopB (nth (fnBody 5) 2)) [] (genEnv77 C))).apart i T h₁ hMid) ho, r⟩
    refine with_size (wpAny_assign_Tuple (hfsh _) hTup₂ rfl rfl fun h₃ hx₃ => ?_)
    have old₃ : ∀ a o, a < h₁.objs.size → h₂.get? a = some o → h₃.get? a = some o := fun a o ha ho => hx₃ a o (Nat.ne_of_lt (Nat.lt_of_lt_of_le ha hz₂)) ho
    have ltT : ∀ a ∈ [C, it, e], a < h₁.objs.size := fun a ha => let ⟨o, ho⟩ := ls.ex a ha; Nat.lt_of_lt_of_le (Heap.lt_size ho) hz₁
    have hn₃ : h₃.Ns C m := hn.at' fun o ho => old₃ C o (ltT C (by simp)) (hk₂ C o (by simp [hCi, hCe]) (hk₁ C o (by simp [hCi, hCe]) ho))
    refine wpAny_bind (wpAny_holding (wpAny_assign_Name (stc hn₃ (fun h₄ hn₄ hs₄ => ?_) k_pos)))
    refine wpAny_bind (wpAny_holding (wpAny_assign_Name (stc hn₄ (fun h₅ hn₅ hs₅ => wpAny_pure ?_) k_ch)))
    intro hz₅
    replace hs₄ : Heap.SameBut C h₃ h₄ := hs₄
    replace hs₅ : Heap.SameBut C h₄ h₅ := hs₅
    replace hz₅ : h₂.objs.size ≤ h₅.objs.size := hz₅
    replace hz₂ : h₁.objs.size ≤ h₂.objs.size := hz₂
    replace hz₁ : s.heap.objs.size ≤ h₁.objs.size := hz₁
    have up : ∀ a o, a ≠ C → a < h₁.objs.size → h₂.get? a = some o → h₅.get? a = some o := fun a o hC ha ho => (hs₅.2 a hC).trans ((hs₄.2 a hC).trans (old₃ a o ha ho))
    have hm5p : (fun z => if z = Str.ofString "ch" then some (Value.str ⟨#[c]⟩ u) else if z = Str.ofString "pos" then some (Value.int i ti) else m z) (Str.ofString "pos") = some (.int i ti) := by
      show (if Str.ofString "pos" = Str.ofString "ch" then _ else _) = _
      rw [if_neg ne_pos_ch, if_pos rfl]
    have hm5e : (fun z => if z = Str.ofString "ch" then some (Value.str ⟨#[c]⟩ u) else if z = Str.ofString "pos" then some (Value.int i ti) else m z) (Str.ofString "escape") = some (.bool b) := by
      show (if Str.ofString "escape" = Str.ofString "ch" then _ else _) = _
      rw [if_neg ne_esc_ch, if_neg ne_esc_pos]; exact hes
    have hm5c : (fun z => if z = Str.ofString "ch" then some (Value.str ⟨#[c]⟩ u) else if z = Str.ofString "pos" then some (Value.int i ti) else m z) (Str.ofString "ch") = some (.str ⟨#[c]⟩ u) := if_pos rfl
    have ls₅ : LS x t C it e (i + 1) b h₅ := ⟨⟨_, hn₅, ⟨ti, hm5p⟩, hm5e⟩, (let ⟨old, ho⟩ := st₂.1; ⟨old, up e _ (Ne.symm hCe) (ltT e (by simp)) ho⟩), (let ⟨o, ho, r⟩ := st₂.2; ⟨o, up it o (Ne.symm hCi) (ltT it (by simp)) ho, r⟩)⟩
    have hsi₅ : ∀ tk, Since [C, it, e] s₀ { s with heap := h₅, toks := tk } := fun tk => hsi.step (fun a o ha ho => up a o (fun q => ha (by simp [q])) (Nat.lt_of_lt_of_le (Heap.lt_size ho) hz₁) (wrG hk₂ a o ha (wrG hk₁ a o ha ho)))
      (Nat.le_trans hz₁ (Nat.le_trans hz₂ hz₅))
    refine seg_execs_cons (seg_If (wpAny_isTrue_value (ldc hn₅ hm5e (wpAny_truthy_bool ?_) k_esc (by decide))))
    cases b with
    | true =>
      rw [if_pos rfl]
      have e₁ : escs (x.cps.toList.drop i) i true = (i, [92, c]) :: escs (x.cps.toList.drop (i + 1)) (i + 1) false := by rw [hdrop, hc']; rfl
      rw [e₁] at hall ⊢
      obtain ⟨l, hlw, hl, hlk, hlz⟩ := ls₅.own
      refine seg_execs_cons (seg_yield_pair (l := l) hfs hfg hall rfl (hsi₅ _) hlw hl hlz (fun Q hQ => ?_) fun s'' hO => ?_)
      · refine wpAny_Tuple (wpAny_items_cons (ldc hn₅ hm5p (wpAny_items_cons (wpAny_BinOp (wpAny_Constant_str (ldc hn₅ hm5c (PyProof.Rows.add_str (fun t' tk => wpAny_items_nil ⟨by size_fits, ?_⟩)) k_ch (by decide))))) k_pos (by decide)))
        have := hQ ti t' tk
        exact this
      · obtain ⟨m', hn', hp', he'⟩ := (hlk _ hO).ns
        refine seg_execs_cons (seg_plain (wpAny_Assign_Name (wpAny_Constant_bool (stc hn' (fun h₆ hn₆ hs₆ => ?_) k_esc))))
        have ls₆ : LS x t C it e (i + 1) false h₆ := ⟨⟨_, hn₆, ⟨_, (if_neg (Ne.symm ne_esc_pos)).trans hp'.choose_spec⟩, if_pos rfl⟩, (let ⟨old, ho⟩ := (hlk _ hO).en; ⟨old, (hs₆.2 e (Ne.symm hCe)).trans ho⟩), (let ⟨o, ho, r⟩ := (hlk _ hO).si; ⟨o, (hs₆.2 it (Ne.symm hCi)).trans ho, r⟩)⟩
        refine seg_execs_nil (seg_again rfl (ih (i + 1) false s'' _ (by omega) (by omega) (fun q => by cases q) ls₆ ?_ ?_))
        · exact (Since.refl _ s'').step (grew_same (by simp) hs₆) (Nat.le_of_eq hs₆.1.symm)
        · obtain ⟨pre, e⟩ := hall; exact ⟨pre ++ [(i, [92, c])], by rw [e]; simp⟩
    | false =>
      rw [if_neg Bool.false_ne_true]
      refine seg_execs_cons (seg_If (wpAny_isTrue_Compare1 (ldc hn₅ hm5c (wpAny_Constant_str (PyProof.Rows.eq_str (wpAny_truthy_bool ?_))) k_ch (by decide))))
      rw [beq_bs]
      by_cases h92 : c = 92
      · rw [if_pos (decide_eq_true h92)]
        have e₁ : escs (x.cps.toList.drop i) i false = escs (x.cps.toList.drop (i + 1)) (i + 1) true := by rw [hdrop, hc', escs, if_pos h92]
        rw [e₁] at hall ⊢
        refine seg_execs_cons (seg_plain (wpAny_Assign_Name (wpAny_Constant_bool (stc hn₅ (fun h₆ hn₆ hs₆ => ?_) k_esc))))
        have ls₆ : LS x t C it e (i + 1) true h₆ := ⟨⟨_, hn₆, ⟨_, (if_neg (Ne.symm ne_esc_pos)).trans hm5p⟩, if_pos rfl⟩, (let ⟨old, ho⟩ := ls₅.en; ⟨old, (hs₆.2 e (Ne.symm hCe)).trans ho⟩), (let ⟨o, ho, r⟩ := ls₅.si; ⟨o, (hs₆.2 it (Ne.symm hCi)).trans ho, r⟩)⟩
        refine seg_execs_nil (seg_execs_nil (seg_again rfl (ih (i + 1) true s₀ _ (by omega) (by omega) (fun _ => by omega) ls₆ ?_ hall)))
        exact (hsi₅ 0).step (grew_same (by simp) hs₆) (Nat.le_of_eq hs₆.1.symm)
      · rw [if_neg (by simpa using h92)]
        have e₁ : escs (x.cps.toList.drop i) i false = (i, [c]) :: escs (x.cps.toList.drop (i + 1)) (i + 1) false := by rw [hdrop, hc', escs, if_neg h92]
        rw [e₁] at hall ⊢
        obtain ⟨l, hlw, hl, hlk, hlz⟩ := ls₅.own
        refine seg_execs_cons (seg_yield_pair (l := l) hfs hfg hall rfl ?_ hlw hl hlz (fun Q hQ => ?_) fun s'' hO => ?_)
        · exact hsi₅ _
        · refine wpAny_Tuple (wpAny_items_cons (ldc hn₅ hm5p (wpAny_items_cons (ldc hn₅ hm5c (wpAny_items_nil ⟨by size_fits, ?_⟩) k_ch (by decide))) k_pos (by decide)))
          exact hQ ti u _
        · refine seg_execs_nil (seg_execs_nil (seg_again rfl (ih (i + 1) false s'' _ (by omega) (by omega) (fun q => by cases q) (hlk _ hO) (Since.refl _ _) ?_)))
          obtain ⟨pre, e⟩ := hall; exact ⟨pre ++ [(i, [c])], by rw [e]; simp⟩
end
end Mine

end

section
open PySem PySem.W PyProof.Rows
namespace Mine
open Sem (wp)

noncomputable def NsObj (o : Obj) (m : Str → Option Value) : Prop := ∃ es ep, o.data = .dict es ep ∧ StrKeys es ∧ ∀ name, nsFind es name = m name

theorem fresh_seg {w : World} {A : Around} {x : Str} {t : Tok} {C : Addr} {s : Shared} {m : Str → Option Value} (hh : A.handled = none) (hC : 152 < C) (G : GBase w s.heap) (hn : s.heap.Ns C m) (hv : m (Str.ofString "addr") = some (.str x t)) :
    Seg (model PR w) A (RP [C, s.heap.objs.size, s.heap.objs.size + 1]) (YP (escs x.cps.toList 0 false) [C, s.heap.objs.size, s.heap.objs.size + 1]) (escs x.cps.toList 0 false).length s (.func (fnBody 5) (genEnv77 C))
      ((model PR w).den (.func (fnBody 5) (genEnv77 C))) [] s := by
  have hCs : C < s.heap.objs.size := hn.lt
  refine seg_func (seg_execs_cons (seg_plain (wpAny_Assign_Name (wpAny_Constant_int (stc hn (fun h₁ hn₁ hs₁ => ?_) k_pos)))))
  refine seg_execs_cons (seg_plain (wpAny_Assign_Name (wpAny_Constant_bool (stc hn₁ (fun h₂ hn₂ hs₂ => ?_) k_esc))))
  replace hs₁ : Heap.SameBut C s.heap h₁ := hs₁
  replace hs₂ : Heap.SameBut C h₁ h₂ := hs₂
  have hz : h₂.objs.size = s.heap.objs.size := hs₂.1.trans hs₁.1
  have keep : ∀ a o, a ≠ C → s.heap.get? a = some o → h₂.get? a = some o := fun a o ha ho => (hs₂.2 a ha).trans ((hs₁.2 a ha).trans ho)
  obtain ⟨mean, mg, mb, T⟩ := G.T
  have hG₂ : h₂.Ns mainGlobals mg := T.g.at' fun o ho => keep _ o (by intro q; rw [← q] at hC; exact absurd hC (by decide)) ho
  have hB₂ : h₂.Ns builtinsNs mb := T.b.at' fun o ho => keep _ o (by intro q; rw [← q] at hC; exact absurd hC (by decide)) ho
  have hmiss : mg (Str.ofString "enumerate") = none := mg_none_of G.X T.g (by kernel_rfl)
  have hmb : mb (Str.ofString "enumerate") = some (.type "enumerate") := (T.builtins _ (by decide)).trans (by kernel_rfl)
  have hm2 : ∀ tp, (fun z => if z = Str.ofString "escape" then some (Value.bool false) else (fun z => if z = Str.ofString "pos" then some (Value.int 0 tp) else m z) z) (Str.ofString "addr") = some (.str x t) := fun tp => by
    show (if Str.ofString "addr" = Str.ofString "escape" then _ else if Str.ofString "addr" = Str.ofString "pos" then _ else _) = _
    rw [if_neg (by decide), if_neg (by decide)]; exact hv
  refine seg_execs_cons (seg_For (Call_Name1 (Calls.Name_function_global (by kernel_rfl) (by kernel_rfl) (Calls.loadGlobal_builtin (env := genEnv77 C) hG₂ hmiss hB₂ hmb
    (callWith_type1 (ldc hn₂ (hm2 _) (call_enumerate_str fun h₃ he₃ hsi₃ hz₃ hk₃ => wpAny_pyIter_enum he₃ fun p => ?_) k_addr (by decide)))) (by decide))))
  replace he₃ : IsEnum h₃ (h₂.objs.size + 1) h₂.objs.size 0 .none := he₃
  replace hsi₃ : h₃.IsStrIter h₂.objs.size (strIterType x) x t 0 := hsi₃
  replace hz₃ : h₃.objs.size = h₂.objs.size + 2 := hz₃
  replace hk₃ : ∀ b o, h₂.get? b = some o → h₃.get? b = some o := hk₃
  rw [hz] at he₃ hsi₃ hz₃
  show Seg (model PR w) A (RP [C, s.heap.objs.size, s.heap.objs.size + 1]) (YP (escs x.cps.toList 0 false) [C, s.heap.objs.size, s.heap.objs.size + 1]) _ s (.forLoop (loopT (nth (fnBody 5) 2)) (.ref (h₂.objs.size + 1)) (loopB (nth (fnBody 5) 2)) [] (genEnv77 C)) _ _ _
  rw [hz]
  refine seg_loop (k := x.cps.size) (i := 0) (b := false) (t := t) (A := A) ?hf rfl rfl (Nat.ne_of_lt hCs) (Nat.ne_of_lt (Nat.lt_succ_of_lt hCs)) (Nat.succ_ne_self _) ?_ (s₀ := s) (s := _) rfl (Nat.zero_le _) (fun q => by cases q) ⟨⟨_, hn₂.keeps hk₃, ⟨s.toks, rfl⟩, rfl⟩, ⟨_, he₃⟩, hsi₃⟩ ⟨h₃, _, rfl, ?_, ?_⟩ ⟨[], by simp⟩
  case hf => exact fun c => hh
  · intro b s₀ s' m' hb hn' hp' he' hlz hsi' hall
    refine seg_again rfl (seg_block_nil (seg_leaf (.ok .next) ?_))
    show Seg (model PR w) A _ _ _ s₀ (.func (fnBody 5) (genEnv77 C)) ((execs _ (genEnv77 C)).wrap _ _ id id) [] s'
    refine seg_execs_cons (seg_If (wpAny_isTrue_value (ldc hn' he' (wpAny_truthy_bool ?_) k_esc (by decide))))
    cases b with
    | false =>
      rw [if_neg Bool.false_ne_true]
      refine seg_execs_nil (seg_execs_nil (seg_end (.ok (.ret .none)) ⟨rfl, rfl, hsi'⟩))
    | true =>
      rw [if_pos rfl]
      obtain ⟨tp, hp'⟩ := hp'
      obtain ⟨oC, es, ep, hoC, rC⟩ := id hn'
      refine seg_execs_cons (seg_yield_pair (l := [(C, oC)]) (p := (x.cps.size - 1, [92])) (rest := []) rfl rfl hall rfl hsi' (fun q hq => by rw [List.mem_singleton.mp hq]; simp) (fun q hq => by rw [List.mem_singleton.mp hq]; exact hoC) hlz (fun Q hQ => ?_) fun s'' hO => ?_)
      · refine wpAny_Tuple (wpAny_items_cons (ldc hn' hp' (wpAny_items_cons (wpAny_Constant_str (wpAny_items_nil ⟨by size_fits, ?_⟩))) k_pos (by decide)))
        exact hQ tp _ _
      · exact seg_execs_nil (seg_execs_nil (seg_end (.ok (.ret .none)) ⟨rfl, rfl, Since.refl _ _⟩))
  · intro b o hb ho
    exact hk₃ b o (keep b o (fun q => hb (by simp [q])) ho)
  · omega

theorem three_not {b C n : Nat} (hb : b ∉ [C]) (h : b < n) : b ∉ [C, n, n + 1] := by
  simp only [List.mem_cons, List.not_mem_nil, or_false] at hb ⊢
  omega
theorem genSt_fresh {w : World} {A : Around} {x : Str} {t : Tok} {C : Addr} {m : Str → Option Value} {oC : Obj} (hh : A.handled = none) (hroom : A.depth < recursionLimit) (hC : 152 < C) (hO : NsObj oC m) (hv : m (Str.ofString "addr") = some (.str x t)) :
    GenSt w A (escs x.cps.toList 0 false) (.fresh (.func (fnBody 5) (genEnv77 C))) [(C, oC)] [C] := by
  have hns : ∀ h : Heap, Own [(C, oC)] h → h.Ns C m := fun h O => let ⟨es, ep, r⟩ := hO; ⟨oC, es, ep, O (C, oC) (List.mem_singleton.mpr rfl), r⟩
  have seg := fun (s : Shared) (G : GBase w s.heap) (O : Own [(C, oC)] s.heap) => fresh_seg (A := A.in1) (s := s) hh hC G (hns _ O) hv
  cases hall : escs x.cps.toList 0 false with
  | nil =>
    refine ⟨rfl, fun s a g Q E G hg hgs O hQ => ?_⟩
    have sg := seg (s.setGen g .running) G O
    rw [hall] at sg
    refine genSt_last (wr := [C, s.heap.objs.size, s.heap.objs.size + 1]) hh hroom G hg hgs ⟨rfl, sg⟩ (fun h' tk hG => hQ h' tk fun b o hb ho => hG b o ?_ ho)
    exact three_not hb (Heap.lt_size ho)
  | cons p rest =>
    refine ⟨rfl, fun s a g Q E G hg hgs O hQ => ?_⟩
    have sg := seg (s.setGen g .running) G O
    rw [hall] at sg
    refine genSt_step (wr := [C, s.heap.objs.size, s.heap.objs.size + 1]) (all := p :: rest) hh hroom ⟨[], rfl⟩ (fun gs' l hb hlw hgo => genSt_of_goes hh hroom rest gs' l ⟨[p], rfl⟩ hb hlw hgo) G hg hgs ⟨rfl, sg⟩
      (fun T t' u own' gs' h' tk st hO' hw hT hTs hTo hG => hQ T t' u own' _ gs' h' tk st hO' hw (fun b hb => ?_) hT hTs hTo fun b o hb ho => hG b o ?_ ho)
    · simp only [List.mem_cons, List.not_mem_nil, or_false] at hb ⊢
      rcases hb with h | h | h
      · exact .inl h
      · exact .inr (Nat.le_of_eq h.symm)
      · exact .inr (Nat.le_of_lt (h ▸ Nat.lt_succ_self _))
    · exact three_not hb (Heap.lt_size ho)
end Mine

end

section
open PySem PySem.W PyProof.Rows PySem.Calls
namespace Mine

theorem fill_now : (PySem.Challenge.rw_rs0061_01.name = PySem.Challenge.rw_rs0061_01.name) ∧ (hd.heap_39 = hd.heap_39) := by k_fill; exact ⟨rfl, rfl⟩

noncomputable abbrev Ext (h h' : Heap) : Prop := ∀ b o, h.get? b = some o → h'.get? b = some o
theorem Ext.refl (h : Heap) : Ext h h := fun _ _ e => e
theorem Ext.trans {a b c : Heap} (x : Ext a b) (y : Ext b c) : Ext a c := fun k o e => y k o (x k o e)

/-- the room that a def wants: d frames -/
structure Room (A : Around) (d : Nat) : Prop where
  hh : A.handled = none
  dp : A.depth + d < recursionLimit
  un : A.units + 20 * d + 40 < cLine

/-- a contract of a def: it leaves all that stood, hands back v with new objects -/
noncomputable def Ct (d : Nat) (w : World) (f : Addr) (vs : List Value) (R : Value → List (Addr × Obj) → Prop) : Prop :=
  ∀ (A : Around) (base : Heap) (fr : List Env) (s : Shared) (Q E : Value → Shared → Prop), GBase w s.heap → Below A base fr s.heap → Room A d →
    (∀ (v : Value) (new : List (Addr × Obj)) (h' : Heap) (tk' : Nat) (g' : Array GenState), R v new → Ext s.heap h' → Own new h' → (∀ q ∈ new, s.heap.get? q.1 = none) → (AllBare s.gens → AllBare g') → Q v ⟨h', g', s.drawn, tk', s.os⟩) →
    wpAny (model PR w) A (call (.ref f) vs) Q E s

noncomputable def Done (R : Value → List (Addr × Obj) → Prop) (s : Shared) (v : Value) (s' : Shared) : Prop :=
  ∃ h' tk' g' new, s' = ⟨h', g', s.drawn, tk', s.os⟩ ∧ R v new ∧ Ext s.heap h' ∧ Own new h' ∧ (∀ q ∈ new, s.heap.get? q.1 = none) ∧ (AllBare s.gens → AllBare g')
noncomputable def DoneF (R : Value → List (Addr × Obj) → Prop) (s : Shared) (f : Flow) (s' : Shared) : Prop := Done R s (match f with | .ret v => v | _ => .none) s'

theorem ct_enter {d : Nat} {w : World} {f : Addr} {vs : List Value} {R : Value → List (Addr × Obj) → Prop} {name : Str} {params : Arguments} {body : List Stmt} {scope : Scope} {pm cd doc oc : Value} {od : Option Addr} {osl : Array (Option Value)} {binds : List (Str × Value)}
    (ho : (hd.heap_39 w.params).lookup f = some ⟨oc, od, .func (docDef name params body scope pm cd doc), osl⟩) (hcd : codeIn (hd.heap_39 w.params) cd name = true)
    (hbind : bindArgs (docDef name params body scope pm cd doc) ⟨vs, []⟩ = pure binds) (hloc : ∀ x ∈ binds, scope.names.lookup x.1 = some .local)
    (h : ∀ (dp un : Nat) (gd : Option (List Code)) (base : Heap) (fr : List Env) (s : Shared) (h₁ : Heap) (tk : Nat) (mean : ExcName → Option Value) (mg mb : Str → Option Value) (A : Around) (L : Addr), A = Around.deeper ⟨none, dp, some fr, gd, un⟩ (envOf name scope L f cd) → A.handled = none → dp + d < recursionLimit → un + 20 * d + 40 < cLine → Below ⟨none, dp, some fr, gd, un⟩ base fr s.heap →
      (hd.heap_39 w.params).In s.heap → Top hd.view_39 (looseW hd.view_39 []) mean mg mb s.heap → Fr s.heap L h₁ (fun x => binds.reverse.lookup x) → News s.heap L h₁ [] →
      wpAny (model PR w) A (execs body (envOf name scope L f cd)) (DoneF R s) (fun _ _ => False) ⟨h₁, s.gens, s.drawn, tk, s.os⟩)
    (hd0 : 0 < d := by decide) (hco : scope.isCoroutine = false := by rfl) (hgen : scope.isGenerator = false := by rfl) (hk : scope.kind = .function := by rfl)
    (hcell : ∀ x ∈ scope.names, x.2 ≠ .cell := by decide) : Ct d w f vs R := by
  intro A base fr s Q E G B Rm hQ
  obtain ⟨mean, mg, mb, T⟩ := G.T
  obtain ⟨hh, dp, fs, gd, un⟩ := A
  obtain ⟨h1, h2, h3⟩ := Rm
  have e1 : hh = none := h1
  have e2 : fs = some fr := B.stack
  subst e1 e2
  refine wpAny_call (call_plain_ret (Nat.lt_of_le_of_lt (Nat.le_add_right _ _) h2) (G.X _ _ ho) rfl T.nolimit (codeRec_of G.X hcd) hbind hloc (fun h₁ F => ?_) hco hgen hk hcell)
  refine wpAny_mono (h dp un gd base fr s h₁ _ mean mg mb _ _ rfl rfl h2 h3 B G.X T F News.nil) (fun fl s' hf => ?_) fun _ _ x => x
  obtain ⟨h', tk', g', new, rfl, hR, hext, hown, hnew, hb⟩ := hf
  exact hQ _ new h' tk' g' hR hext hown hnew hb

/-- the caller's frame and ledger behind a call -/
theorem after_F {h₀ h h' : Heap} {L : Addr} {m : Str → Option Value} (F : Fr h₀ L h m) (x : Ext h h') : Fr h₀ L h' m := ⟨F.ns.keeps x, fun b o e => x b o (F.keep b o e), F.above⟩
theorem after_N {h₀ h h' : Heap} {L : Addr} {news : List (Addr × Obj)} (N : News h₀ L h news) (x : Ext h h') : News h₀ L h' news := fun p hp => ⟨x _ _ (N p hp).1, (N p hp).2⟩
theorem after_new {h₀ h h' : Heap} {L : Addr} {m : Str → Option Value} {new : List (Addr × Obj)} (F : Fr h₀ L h m) (o : Own new h') (n : ∀ q ∈ new, h.get? q.1 = none) : News h₀ L h' new := fun p hp => by
  refine ⟨o p hp, fun e => ?_, ?_⟩
  · obtain ⟨oL, _, _, hL, _⟩ := F.ns
    have := n p hp
    rw [e, hL] at this; cases this
  · cases q : h₀.get? p.1 with
    | none => rfl
    | some o' => have := n p hp; rw [F.keep _ _ q] at this; cases this
theorem news_app {h₀ h : Heap} {L : Addr} {a b : List (Addr × Obj)} (x : News h₀ L h a) (y : News h₀ L h b) : News h₀ L h (a ++ b) := fun p hp => (List.mem_append.mp hp).elim (x p) (y p)
theorem new_off {h₀ h : Heap} {L : Addr} {news new : List (Addr × Obj)} (N : News h₀ L h news) (n : ∀ q ∈ new, h.get? q.1 = none) : OwnOff new (news.map (·.1)) := fun q hq b hb e => by
  obtain ⟨p, hp, rfl⟩ := List.mem_map.mp hb
  have := n q hq
  rw [e, (N p hp).1] at this; cases this

noncomputable abbrev genO (g : Nat) (nm qn : Value) : Obj := { cls := .type "generator", data := .fields #[.int g 0, nm, qn] }

theorem gen_make {w : World} {A : Around} {s : Shared} {x : Str} {t : Tok} {Q E : Value → Shared → Prop} (G : GBase w s.heap) (hroom : A.depth < recursionLimit)
    (hQ : ∀ C a oC m nm qn h' tk, Ext s.heap h' → 152 < C → NsObj oC m → m (Str.ofString "addr") = some (.str x t) → Own [(C, oC), (a, genO s.gens.size nm qn)] h' → C < a → s.heap.get? C = none → s.heap.get? a = none → s.heap.objs.size ≤ C →
      Q (.ref a) ⟨h', s.gens.push (.fresh (.func (fnBody 5) (genEnv77 C))), s.drawn, tk, s.os⟩) :
    wpAny (model PR w) A (call (.ref 77) [.str x t]) Q E s := by
  obtain ⟨mean, mg, mb, T⟩ := G.T
  have h152 : 152 < s.heap.objs.size := Heap.lt_size (G.X 152 ((hd.heap_39 w.params).lookup 152).get! (by kernel_rfl))
  have go : ∀ {oc : Value} {od : Option Addr} {params : Arguments} {pm doc : Value} {osl : Array (Option Value)},
      (hd.heap_39 w.params).lookup 77 = some ⟨oc, od, .func (docDef (Str.ofString "_iter_escaped_chars") params (fnBody 5) (fnScope 5) pm (.ref 76) doc), osl⟩ →
      bindArgs (docDef (Str.ofString "_iter_escaped_chars") params (fnBody 5) (fnScope 5) pm (.ref 76) doc) ⟨[.str x t], []⟩ = pure [(Str.ofString "addr", .str x t)] →
      wpAny (model PR w) A (call (.ref 77) [.str x t]) Q E s := by
    intro oc od params pm doc osl hl hb
    refine wpAny_call (codeAny_call_generator hroom (G.X _ _ hl) rfl (by kernel_rfl) (by kernel_rfl) rfl (codeRec_of G.X (cd := .ref 76) (by kernel_rfl)) ?_)
    rw [hb]
    refine wpAny_pure (wpAny_newFunctionEnv (show ∀ y ∈ (fnScope 5).names, y.2 ≠ .cell by decide) (locs (by kernel_rfl)) (fun h₁ hns hsb => ⟨T.nolimit.fresh _ hsb, ?_⟩) (by kernel_rfl))
    obtain ⟨oC, es, ep, hoC, rC⟩ := id hns
    have hz : h₁.objs.size = s.heap.objs.size + 1 := hsb.1.trans (Heap.size_push ..)
    have none_ge : ∀ a, s.heap.objs.size ≤ a → s.heap.get? a = none := fun a ha => by
      cases q : s.heap.get? a with
      | none => rfl
      | some o => exact absurd (Heap.lt_size q) (Nat.not_lt.mpr ha)
    refine hQ s.heap.objs.size h₁.objs.size oC _ (.str (Str.ofString "_iter_escaped_chars") (s.toks + 1)) (.str (Str.ofString "_iter_escaped_chars") (s.toks + 1 + 1)) _ _ (fun b o ho => Heap.get?_push_of_some _ (hsb.extBut b o (Nat.ne_of_lt (Heap.lt_size ho)) (Heap.get?_push_of_some _ ho))) h152 ⟨es, ep, rC⟩ rfl ?_ (by rw [hz]; exact Nat.lt_succ_self _) (none_ge _ (Nat.le_refl _)) (none_ge _ (by rw [hz]; exact Nat.le_succ _)) (Nat.le_refl _)
    intro p hp
    simp only [List.mem_cons, List.not_mem_nil, or_false] at hp
    rcases hp with rfl | rfl
    · exact Heap.get?_push_of_some _ hoC
    · exact Heap.get?_push_size _ rfl
  refine go (by k_is) (by rfl)
end Mine

end

section
open PySem PySem.W PyProof.Rows PySem.Calls
namespace Mine

noncomputable def GenTurn (h₀ : Heap) (L : Addr) (own : List (Addr × Obj)) (adr : List Addr) (J : (Str → Option Value) → List (Addr × Obj) → Prop) (gens : Array GenState) (s s₂ : Shared) : Prop :=
  ∃ h' tk' m' mine', s₂ = ⟨h', gens, s.drawn, tk', s.os⟩ ∧ Fr h₀ L h' m' ∧ News h₀ L h' (mine' ++ own) ∧ mine'.map (·.1) = adr ∧ J m' mine'
theorem gen_turn {h₀ h' : Heap} {L : Addr} {own : List (Addr × Obj)} {adr : List Addr} {J : (Str → Option Value) → List (Addr × Obj) → Prop} {gens : Array GenState} {s : Shared} {m' : Str → Option Value} {tk' : Nat} (mine' : List (Addr × Obj))
    (F : Fr h₀ L h' m') (N : News h₀ L h' (mine' ++ own)) (e : mine'.map (·.1) = adr) (j : J m' mine') : GenTurn h₀ L own adr J gens s ⟨h', gens, s.drawn, tk', s.os⟩ := ⟨h', tk', m', mine', rfl, F, N, e, j⟩
noncomputable def GenPost (Q : Flow → Shared → Prop) (T : Shared → Prop) (f : Flow) (s₂ : Shared) : Prop := match f with
  | .ret v => Q (.ret v) s₂
  | .brk => Q .next s₂
  | _ => T s₂

theorem genPost_ret {Q : Flow → Shared → Prop} {T : Shared → Prop} {v : Value} {s : Shared} (h : Q (.ret v) s) : GenPost Q T (.ret v) s := h
theorem allBare_set {gens : Array GenState} {g : Nat} {x : GenState} (h : AllBare gens) (hx : x.bare = true) : AllBare (gens.setIfInBounds g x) := by
  intro y hy
  rw [Array.mem_iff_getElem] at hy
  obtain ⟨i, hi, rfl⟩ := hy
  have hi' : i < gens.size := by simpa using hi
  rw [Array.getElem_setIfInBounds hi']
  split
  · exact hx
  · exact h _ (Array.getElem_mem _)
theorem set_self {gens : Array GenState} {g : Nat} {x y : GenState} (h : gens[g]? = some y) : (gens.setIfInBounds g x)[g]? = some x := by
  have hlt : g < gens.size := by
    rcases Nat.lt_or_ge g gens.size with h' | h'
    · exact h'
    · rw [Array.getElem?_eq_none h'] at h; cases h
  simp [hlt]
theorem GenSt.bare {w : World} {A : Around} {todo : List (Nat × List Nat)} {gs : GenState} {own : List (Addr × Obj)} {wr : List Addr} (h : GenSt w A todo gs own wr) : gs.bare = true := by
  cases todo with
  | nil => exact h.1
  | cons _ _ => exact h.1

section
variable {w : World} {A : Around} {h₀ : Heap} {name : Str} {scope : Scope} {L a₀ : Addr} {cd : Value} {s : Shared} {Q : Flow → Shared → Prop} {E : Value → Shared → Prop}

structure GInv (w : World) (A : Around) (h₀ : Heap) (L a : Addr) (g : Nat) (nm qn : Value) (ad : List Addr) (s : Shared) (J : List (Nat × List Nat) → (Str → Option Value) → List (Addr × Obj) → Prop)
    (todo : List (Nat × List Nat)) (gs : GenState) (own : List (Addr × Obj)) (wr : List Addr) (m : Str → Option Value) (mine : List (Addr × Obj)) (h : Heap) (gens : Array GenState) : Prop where
  F : Fr h₀ L h m
  N : News h₀ L h mine
  adr : mine.map (·.1) = ad
  J : J todo m mine
  G : GenSt w A todo gs own wr
  O : Own own h
  ow : ∀ q ∈ own, q.1 ∈ wr
  ga : h.get? a = some (genO g nm qn)
  gg : gens[g]? = some gs
  bare : AllBare s.gens → AllBare gens
  wr0 : ∀ b ∈ wr, h₀.get? b = none ∧ b ≠ L ∧ b ≠ a ∧ b ∉ ad

/-- what holds ahead of each turn of a for over a generator -/
inductive GenI (w : World) (A : Around) (h₀ : Heap) (L a : Addr) (g : Nat) (nm qn : Value) (ad : List Addr) (s : Shared) (J : List (Nat × List Nat) → (Str → Option Value) → List (Addr × Obj) → Prop) (n : Nat) (s' : Shared) : Prop
  | mk (todo : List (Nat × List Nat)) (gs : GenState) (own : List (Addr × Obj)) (wr : List Addr) (m₁ : Str → Option Value) (mine₁ : List (Addr × Obj)) (h : Heap) (gens : Array GenState) (tk : Nat) (en : n = todo.length) (es : s' = ⟨h, gens, s.drawn, tk, s.os⟩) (I : GInv w A h₀ L a g nm qn ad s J todo gs own wr m₁ mine₁ h gens)
theorem go_gen {elts : List PySem.Expr} {k : Nat} {pos : Pos} {a T : Addr} {g : Nat} {nm qn : Value} {Q : Unit → Shared → Prop} (ha : s.heap.get? a = some (genO g nm qn)) (hQ : Q () s) :
    wpAny (model PR w) A (letOwnedTupleGo (.Tuple elts k pos) (.ref a) (.ref T)) Q E s := by
  unfold letOwnedTupleGo
  refine wpAny_bind (wpAny_load ha ?_)
  show wpAny _ A (if (["enumerate", "zip", "dict_itemiterator", "dict_reverseitemiterator", "odict_iterator", "itertools.zip_longest", "itertools.pairwise"].contains "generator" && _) = true then _ else _) Q E s
  rw [if_neg (by simp)]
  exact wpAny_pure hQ

theorem for_gen {xi xv : Str} {pi pv pt pos : Pos} {k : Nat} {iter : PySem.Expr} {body : List Stmt} {x : Str} {t : Tok} {m : Str → Option Value} {mine : List (Addr × Obj)}
    (J : List (Nat × List Nat) → (Str → Option Value) → List (Addr × Obj) → Prop)
    (hh : A.handled = none) (hroom : A.depth < recursionLimit) (hk : scope.kind = .function)
    (hxi : (envOf name scope L a₀ cd).kindOf xi = some .local) (hxv : (envOf name scope L a₀ cd).kindOf xv = some .local)
    (F : Fr h₀ L s.heap m) (N : News h₀ L s.heap mine) (G : GBase w h₀)
    (hiter : ∀ (Q' : Value → Shared → Prop), wpAny (model PR w) A (call (.ref 77) [.str x t]) Q' E s → wpAny (model PR w) A (eval iter (envOf name scope L a₀ cd)) Q' E s)
    (hj : J (escs x.cps.toList 0 false) m mine)
    (turn : ∀ p rest m₁ mine₁ own h gens tk t u, J (p :: rest) m₁ mine₁ → mine₁.map (·.1) = mine.map (·.1) → OwnOff own (mine.map (·.1)) → (AllBare s.gens → AllBare gens) →
      Fr h₀ L h (fun y => if y = xv then some (.str ⟨p.2.toArray⟩ u) else if y = xi then some (.int (p.1 : Nat) t) else m₁ y) → News h₀ L h (mine₁ ++ own) →
      wpAny (model PR w) A (execs body (envOf name scope L a₀ cd)) (GenPost Q (GenTurn h₀ L own (mine.map (·.1)) (J rest) gens s)) (fun _ _ => False) ⟨h, gens, s.drawn, tk, s.os⟩)
    (done : ∀ m₁ mine₁ h gens tk, J [] m₁ mine₁ → mine₁.map (·.1) = mine.map (·.1) → (AllBare s.gens → AllBare gens) → Fr h₀ L h m₁ → News h₀ L h mine₁ → Q .next ⟨h, gens, s.drawn, tk, s.os⟩)
    (hs : ∀ x, foldedSetIterable iter (envOf name scope L a₀ cd) x = pure x := by intro _; rfl) :
    wpAny (model PR w) A (exec (.For (.Tuple [.Name xi pi, .Name xv pv] k pt) iter body [] pos) (envOf name scope L a₀ cd)) Q E s := by
  refine wpAny_For (hiter _ ?_) hs
  refine gen_make (G.keeps F.keep) hroom fun C a oC mC nm qn h₁ tk₁ hext hC hNs hv hOwn hCa hC0 ha0 hCs => ?_
  have hga : h₁.get? a = some (genO s.gens.size nm qn) := hOwn (a, _) (by simp)
  refine wpAny_pyIter_gen (g := s.gens.size) ⟨_, nm, qn, hga, rfl, rfl, rfl⟩ ?_
  have nadr : ∀ {b : Addr}, s.heap.get? b = none → h₀.get? b = none ∧ b ≠ L ∧ b ∉ mine.map (·.1) := fun {b} hb => by
    refine ⟨?_, fun e => ?_, fun hm => ?_⟩
    · cases q : h₀.get? b with
      | none => rfl
      | some o => rw [F.keep _ _ q] at hb; cases hb
    · obtain ⟨oL, _, _, hL, _⟩ := F.ns
      rw [e, hL] at hb; cases hb
    · obtain ⟨p, hp, rfl⟩ := List.mem_map.mp hm
      rw [(N p hp).1] at hb; cases hb
  have hcell : (envOf name scope L a₀ cd).scope.kind = .function := hk
  have hp0 : ((envOf name scope L a₀ cd).scope.kind == .class || ((envOf name scope L a₀ cd).scope.kind == .module && (envOf name scope L a₀ cd).locals != (envOf name scope L a₀ cd).globals)) = false := by
    show (scope.kind == .class || (scope.kind == .module && L != mainGlobals)) = false; rw [hk]; rfl
  refine codeAny_forLoop_any (GenI w A h₀ L a s.gens.size nm qn (mine.map (·.1)) s J) ?_ _
    ⟨_, _, [(C, oC)], [C], m, mine, h₁, _, tk₁, rfl, rfl, ⟨after_F F hext, after_N N hext, rfl, hj, genSt_fresh hh hroom hC hNs hv, fun p hp => by rw [List.mem_singleton.mp hp]; exact hOwn (C, oC) (by simp), fun p hp => by rw [List.mem_singleton.mp hp]; simp, hga, by simp, fun hb => hb.push rfl,
      fun b hb => by rw [List.mem_singleton.mp hb]; exact ⟨(nadr hC0).1, (nadr hC0).2.1, Nat.ne_of_lt hCa, (nadr hC0).2.2⟩⟩⟩
  rintro n s' ⟨todo, gs, own, wr, m₁, mine₁, h, gens, tk, rfl, rfl, I⟩
  have hGB : GBase w h := G.keeps I.F.keep
  -- what a resume leaves
  have after : ∀ {h'}, Grew wr h h' → Fr h₀ L h' m₁ ∧ News h₀ L h' mine₁ ∧ h'.get? a = some (genO s.gens.size nm qn) := fun {h'} hG => by
    refine ⟨⟨I.F.ns.at' fun o ho => hG L o (fun hb => (I.wr0 L hb).2.1 rfl) ho, fun b o ho => hG b o (fun hb => by rw [(I.wr0 b hb).1] at ho; cases ho) (I.F.keep b o ho), I.F.above⟩, fun p hp => ⟨hG p.1 p.2 (fun hb => (I.wr0 _ hb).2.2.2 (by rw [← I.adr]; exact List.mem_map.mpr ⟨p, hp, rfl⟩)) (I.N p hp).1, (I.N p hp).2⟩, hG a _ (fun hb => (I.wr0 a hb).2.2.1 rfl) I.ga⟩
  cases todo with
  | nil =>
    refine I.G.2 ⟨h, gens, s.drawn, tk, s.os⟩ a s.gens.size _ _ hGB ⟨_, nm, qn, I.ga, rfl, rfl, rfl⟩ I.gg I.O fun h' tk' hG => wpAny_execs_nil ?_
    obtain ⟨F', N', _⟩ := after hG
    exact done m₁ mine₁ h' _ tk' I.J I.adr (fun hb => allBare_set (I.bare hb) rfl) F' N'
  | cons p rest =>
    refine I.G.2 ⟨h, gens, s.drawn, tk, s.os⟩ a s.gens.size _ _ hGB ⟨_, nm, qn, I.ga, rfl, rfl, rfl⟩ I.gg I.O fun T t' u own' wr' gs' h' tk' hG' hO' hw' hwr' hT hTs hTw hG => ?_
    obtain ⟨F', N', ga'⟩ := after hG
    refine go_gen ga' ?_
    refine wpAny_assign_Tuple hh (⟨_, hT, rfl, _, rfl⟩ : Heap.IsTuple _ T #[.int (p.1 : Nat) t', .str ⟨p.2.toArray⟩ u]) rfl rfl fun h₃ hx₃ => ?_
    replace hx₃ : Heap.ExtBut h'.objs.size h' h₃ := hx₃
    have x₃ : Ext h' h₃ := fun b o ho => hx₃ b o (Nat.ne_of_lt (Heap.lt_size ho)) ho
    have F₃ := after_F F' x₃
    have N₃ := after_N N' x₃
    have wrL : ∀ b ∈ wr', h₀.get? b = none ∧ b ≠ L ∧ b ≠ a ∧ b ∉ mine.map (·.1) := fun b hb => by
      rcases hwr' b hb with hb | hb
      · exact I.wr0 b hb
      · have nb : ∀ c o, h.get? c = some o → b ≠ c := fun c o ho e => absurd (Heap.lt_size ho) (e ▸ Nat.not_lt.mpr hb)
        refine ⟨?_, ?_, nb a _ I.ga, fun hm => ?_⟩
        · cases q : h₀.get? b with
          | none => rfl
          | some o => exact absurd rfl (nb b o (I.F.keep _ _ q))
        · obtain ⟨oL, _, _, hL, _⟩ := I.F.ns; exact nb L oL hL
        · rw [← I.adr] at hm
          obtain ⟨q, hq, e⟩ := List.mem_map.mp hm
          exact nb q.1 q.2 (I.N q hq).1 e.symm
    have aL : h₀.get? a = none ∧ a ≠ L ∧ a ∉ mine.map (·.1) := nadr ha0
    have NO : News h₀ L h₃ ((a, genO s.gens.size nm qn) :: own') := fun q hq => by
      rcases List.mem_cons.mp hq with rfl | hq
      · exact ⟨x₃ _ _ ga', aL.2.1, aL.1⟩
      · exact ⟨x₃ _ _ (hO' q hq), (wrL _ (hw' q hq)).2.1, (wrL _ (hw' q hq)).1⟩
    refine wpAny_bind (wpAny_holding (wpAny_assign_Name (wpAny_storeName_local hxi F₃.ns (fun h₄ hn₄ hs₄ => ?_) hp0)))
    refine wpAny_bind (wpAny_holding (wpAny_assign_Name (wpAny_storeName_local hxv hn₄ (fun h₅ hn₅ hs₅ => wpAny_pure ?_) hp0)))
    have F₅ := (F₃.set hn₄ hs₄).set hn₅ hs₅
    have N₅ := (news_app N₃ NO).set hs₄ |>.set hs₅
    have off : OwnOff ((a, genO s.gens.size nm qn) :: own') (mine.map (·.1)) := fun q hq b hb e => by
      rcases List.mem_cons.mp hq with rfl | hq
      · have e' : a = b := e
        exact aL.2.2 (e' ▸ hb)
      · exact (wrL _ (hw' q hq)).2.2.2 (e ▸ hb)
    refine wpAny_mono (turn p rest m₁ mine₁ _ h₅ _ _ t' u I.J I.adr off (fun hb => allBare_set (I.bare hb) hG'.bare) F₅ N₅) (fun f s₂ hp => ?_) fun _ _ x => x.elim
    have fin : GenTurn h₀ L ((a, genO s.gens.size nm qn) :: own') (mine.map (·.1)) (J rest) (gens.setIfInBounds s.gens.size gs') s s₂ → ∃ n', n' < (p :: rest).length ∧ GenI w A h₀ L a s.gens.size nm qn (mine.map (·.1)) s J n' s₂ := by
      rintro ⟨h₆, tk₆, m₆, mine₆, rfl, F₆, N₆, adr₆, hJ₆⟩
      exact ⟨rest.length, Nat.lt_succ_self _, rest, gs', own', wr', m₆, mine₆, h₆, _, tk₆, rfl, rfl, ⟨F₆, fun q hq => N₆ q (List.mem_append.mpr (.inl hq)), adr₆, hJ₆, hG', fun q hq => (N₆ q (List.mem_append.mpr (.inr (.tail _ hq)))).1, hw', (N₆ _ (List.mem_append.mpr (.inr (.head _)))).1, set_self I.gg, fun hb => allBare_set (I.bare hb) hG'.bare, wrL⟩⟩
    cases f with
    | ret v => exact hp
    | brk => exact hp
    | next => exact fin hp
    | cont => exact fin hp
end
end Mine

end

section
open PySem PySem.W PyProof.Rows PySem.Calls
namespace Mine
open PySem.Builtin PySem.Builtin.Str

noncomputable abbrev S (l : List Nat) : PySem.Str := ⟨l.toArray⟩
theorem S_len (l : List Nat) : (S l).length = l.length := by simp [S, PySem.Str.length]
theorem S_cps (l : List Nat) : (S l).cps.toList = l := by simp [S]
theorem S_of (x : PySem.Str) : x = S x.cps.toList := by cases x; simp [S]
theorem S_app (a b : List Nat) : S a ++ S b = S (a ++ b) := by
  show PySem.Str.mk (a.toArray ++ b.toArray) = _
  simp [S]
theorem S_inj {a b : List Nat} (h : S a = S b) : a = b := by
  have := congrArg (fun x : PySem.Str => x.cps.toList) h
  simpa [S] using this
theorem S_beq (a b : List Nat) : (S a == S b) = (a == b) := by
  by_cases h : a = b
  · subst h; simp
  · have : S a ≠ S b := fun e => h (S_inj e)
    rw [beq_eq_false_iff_ne.mpr this, beq_eq_false_iff_ne.mpr h]

theorem list_cons {α : Type} {l : List α} {n : Nat} (h : l.length = n + 1) : ∃ a t, l = a :: t ∧ t.length = n := by
  cases l with
  | nil => cases h
  | cons a t => exact ⟨a, t, rfl, Nat.succ.inj h⟩
theorem list_four {α : Type} {l : List α} (h : l.length = 4) : ∃ a b c d, l = [a, b, c, d] := by
  obtain ⟨a, l1, rfl, h1⟩ := list_cons h
  obtain ⟨b, l2, rfl, h2⟩ := list_cons h1
  obtain ⟨c, l3, rfl, h3⟩ := list_cons h2
  obtain ⟨d, l4, rfl, h4⟩ := list_cons h3
  rw [List.length_eq_zero_iff.mp h4]
  exact ⟨a, b, c, d, rfl⟩
theorem lt4 {k : Nat} (h : k < 4) : k = 0 ∨ k = 1 ∨ k = 2 ∨ k = 3 := (by decide : ∀ k : Fin 4, k.val = 0 ∨ k.val = 1 ∨ k.val = 2 ∨ k.val = 3) ⟨k, h⟩
theorem lt6 {k : Nat} (h : k < 6) : k = 0 ∨ k = 1 ∨ k = 2 ∨ k = 3 ∨ k = 4 ∨ k = 5 := (by decide : ∀ k : Fin 6, k.val = 0 ∨ k.val = 1 ∨ k.val = 2 ∨ k.val = 3 ∨ k.val = 4 ∨ k.val = 5) ⟨k, h⟩
theorem clip_nat (a n : Nat) : max 0 (min (a : Int) n) = ((min a n : Nat) : Int) := by
  rcases Nat.le_total a n with h | h
  · rw [Nat.min_eq_left h, Int.min_eq_left (Int.ofNat_le.mpr h), Int.max_eq_right (Int.natCast_nonneg a)]
  · rw [Nat.min_eq_right h, Int.min_eq_right (Int.ofNat_le.mpr h), Int.max_eq_right (Int.natCast_nonneg n)]
theorem span_nat (x y : Nat) : (if (x : Int) < (y : Int) then ((y : Int) - (x : Int) + 1 - 1) / 1 else 0).toNat = y - x := by
  rw [Int.add_sub_cancel, Int.ediv_one]
  split
  · exact Int.toNat_sub y x
  · rename_i h
    rw [Nat.sub_eq_zero_of_le (Int.ofNat_le.mp (Int.not_lt.mp h))]; rfl
theorem idx_nat (a b n : Nat) : strSliceIndices (some (a : Int)) (some (b : Int)) 1 n = (List.range (min b n - min a n)).map (min a n + ·) := by
  unfold strSliceIndices sliceRange
  simp only [show (1 : Int) > 0 by decide, if_true]
  rw [if_neg (Int.not_lt.mpr (Int.natCast_nonneg a)), if_neg (Int.not_lt.mpr (Int.natCast_nonneg b)), clip_nat, clip_nat]
  generalize min a n = x
  generalize min b n = y
  rw [span_nat]
  refine List.map_congr_left fun k _ => ?_
  rw [Int.one_mul, ← Int.natCast_add, Int.toNat_natCast]
theorem pick_nat (l : List Nat) (c k : Nat) : ((List.range k).map (c + ·)).filterMap (l[·]?) = (l.drop c).take k := by
  induction k generalizing c with
  | zero => simp
  | succ k ih =>
    rw [List.range_succ_eq_map, List.map_cons, List.map_map]
    have e : (List.range k).map ((c + ·) ∘ Nat.succ) = (List.range k).map (c + 1 + ·) := List.map_congr_left fun j _ => by simp; omega
    rw [e]
    by_cases hc : c < l.length
    · rw [List.filterMap_cons_some (b := l[c]) (by simp [hc]), ih, List.drop_eq_getElem_cons hc, List.take_succ_cons]
    · rw [List.filterMap_cons_none (by simp; omega), ih, List.drop_of_length_le (by omega), List.drop_of_length_le (by omega)]; simp
theorem slice_nat (l : List Nat) (a b : Nat) : Txt.slice (S l) (some (a : Int)) (some (b : Int)) = S ((l.take b).drop a) := by
  unfold Txt.slice
  rw [S_len, idx_nat]
  have key : ((List.range (min b l.length - min a l.length)).map (min a l.length + ·)).filterMap ((S l).cps[·]?) = (l.take b).drop a := by
    have e : (fun i : Nat => (S l).cps[i]?) = fun i : Nat => l[i]? := by funext i; simp [S]
    rw [e, pick_nat, List.drop_take]
    by_cases ha : a ≤ l.length
    · rw [Nat.min_eq_left ha]
      by_cases hb : b ≤ l.length
      · rw [Nat.min_eq_left hb]
      · rw [Nat.min_eq_right (by omega), List.take_of_length_le (by simp), List.take_of_length_le (by simp; omega)]
    · rw [List.drop_of_length_le (by omega), List.drop_of_length_le (by omega)]; simp
  split
  · rename_i h
    simp only [List.length_map, List.length_range, beq_self_eq_true, Bool.true_and, beq_iff_eq] at h
    congr 1
    by_cases hn : l.length = 0
    · rw [List.length_eq_zero_iff.mp hn]; simp
    · have ha : a = 0 := by omega
      rw [ha, List.take_of_length_le (by omega)]; rfl
  · show PySem.Str.mk _ = _
    rw [key]
theorem slice_from (l : List Nat) (a : Nat) : Txt.slice (S l) (some (a : Int)) none = S (l.drop a) := by
  have h := slice_nat l a l.length
  rw [List.take_length] at h
  rw [← h]
  unfold Txt.slice strSliceIndices
  simp only [S_len, show (1 : Int) > 0 by decide, if_true]
  rw [if_neg (Int.not_lt.mpr (Int.natCast_nonneg l.length)), Int.min_self, Int.max_eq_right (Int.natCast_nonneg l.length)]
theorem slice_to (l : List Nat) (b : Nat) : Txt.slice (S l) none (some (b : Int)) = S (l.take b) := by
  have h := slice_nat l 0 b
  rw [List.drop_zero] at h
  rw [← h]
  unfold Txt.slice strSliceIndices
  simp only [S_len, show (1 : Int) > 0 by decide, if_true]
  rw [if_neg (Int.not_lt.mpr (Int.natCast_nonneg 0)), clip_nat, Nat.zero_min]
  rfl
theorem join_empty (ls : List (List Nat)) : Txt.join (PySem.Str.ofString "") (ls.map S) = S ls.flatten := by
  show glued (PySem.Str.ofString "") _ = _
  rw [StrLaws.glued_eq_join]
  have e : PySem.Str.ofString "" = S [] := by decide
  rw [e]
  induction ls with
  | nil => rfl
  | cons a r ih =>
    cases r with
    | nil => simp [PySem.Str.join]
    | cons b r =>
      have e2 : PySem.Str.join (S []) ((a :: b :: r).map S) = S a ++ S [] ++ PySem.Str.join (S []) ((b :: r).map S) := rfl
      rw [e2, ih, S_app, S_app]; simp
end Mine

end

local macro_rules | `(tactic| walk_at $s:str) => `(tactic| k_extra $s)

section
open PySem PySem.W PyProof.Rows PySem.Calls
namespace Mine
/-- a statement's post, hidden behind a variable -/
noncomputable def Post (Q : Flow → Shared → Prop) (f : Flow) (s : Shared) : Prop := Q f s
/-- what the hidden post stands for: the rest of the statements, then Q -/
noncomputable def Aft (M : Model) (A : Around) (env : Env) (rest : List Stmt) (Q : Flow → Shared → Prop) (E : Value → Shared → Prop) (Q' : Flow → Shared → Prop) : Prop :=
  ∀ f s, (match f with | .next => wpAny M A (execs rest env) Q E s | f => Q f s) → Q' f s
theorem aft_cons {M : Model} {A : Around} {env : Env} {st : Stmt} {rest : List Stmt} {Q : Flow → Shared → Prop} {E : Value → Shared → Prop} {hp : Heap} {g : Array GenState} {d : Drawn} {o : OsState} {x : Tok}
    (h : ∀ Q' tk, Aft M A env rest Q E Q' → wpAny M A (exec st env) (Post Q') E ⟨hp, g, d, tk, o⟩) : wpAny M A (execs (st :: rest) env) Q E ⟨hp, g, d, x, o⟩ := wpAny_execs_cons (h _ x fun _ _ x => x)
theorem aft_flat {M : Model} {A : Around} {env : Env} {st : Stmt} {rest : List Stmt} {Q : Flow → Shared → Prop} {E : Value → Shared → Prop} {s : Shared} {hp : Heap} {g : Array GenState} {d : Drawn} {o : OsState} {x : Tok} (e : s = ⟨hp, g, d, x, o⟩)
    (h : ∀ Q' tk, Aft M A env rest Q E Q' → wpAny M A (exec st env) (Post Q') E ⟨hp, g, d, tk, o⟩) : wpAny M A (execs (st :: rest) env) Q E s := e ▸ aft_cons h
theorem aft_next {M : Model} {A : Around} {env : Env} {rest : List Stmt} {Q Q' : Flow → Shared → Prop} {E : Value → Shared → Prop} {s : Shared}
    (h : Aft M A env rest Q E Q') (x : wpAny M A (execs rest env) Q E s) : Post Q' .next s := h .next s x
theorem aft_end {M : Model} {A : Around} {env : Env} {Q Q' : Flow → Shared → Prop} {E : Value → Shared → Prop} {s : Shared}
    (h : Aft M A env [] Q E Q') (x : Q .next s) : Post Q' .next s := h .next s (wpAny_execs_nil x)
theorem aft_ret {M : Model} {A : Around} {env : Env} {rest : List Stmt} {Q Q' : Flow → Shared → Prop} {E : Value → Shared → Prop} {s : Shared} {v : Value}
    (h : Aft M A env rest Q E Q') (x : Q (.ret v) s) : Post Q' (.ret v) s := h (.ret v) s x
theorem aft_brk {M : Model} {A : Around} {env : Env} {rest : List Stmt} {Q Q' : Flow → Shared → Prop} {E : Value → Shared → Prop} {s : Shared}
    (h : Aft M A env rest Q E Q') (x : Q .brk s) : Post Q' .brk s := h .brk s x
theorem aft_cont {M : Model} {A : Around} {env : Env} {rest : List Stmt} {Q Q' : Flow → Shared → Prop} {E : Value → Shared → Prop} {s : Shared}
    (h : Aft M A env rest Q E Q') (x : Q .cont s) : Post Q' .cont s := h .cont s x
/-- a step whose ways end alike: its value is told by P, the rest is walked once -/
theorem cut_some {α : Type} {M : Model} {A : Around} {t : Sem α} {E : Value → Shared → Prop} {Q : α → Shared → Prop} {hp : Heap} {g : Array GenState} {d : Drawn} {o : OsState} {x : Tok} (P : α → Prop)
    (h : ∀ Q' : α → Shared → Prop, (∀ v tk, P v → Q' v ⟨hp, g, d, tk, o⟩) → wpAny M A t Q' E ⟨hp, g, d, x, o⟩) (k : ∀ v tk, P v → Q v ⟨hp, g, d, tk, o⟩) : wpAny M A t Q E ⟨hp, g, d, x, o⟩ := h Q k
/-- the Around written out, for a step that looks at it -/
theorem sub_A {α : Type} {M : Model} {A A' : Around} {t : Sem α} {E : Value → Shared → Prop} {Q : α → Shared → Prop} {s : Shared} (hA : A = A') (h : wpAny M A' t Q E s) : wpAny M A t Q E s := hA ▸ h
theorem sub_At {M : Model} {A A' : Around} {c : String} {vs : List Value} {E Q : Value → Shared → Prop} {s : Shared} (hA : A = A') (h : wpAny M A' (call (.type c) vs) Q E s) : wpAny M A (call (.type c) vs) Q E s := hA ▸ h
end Mine

end

section
open PySem PySem.W PyProof.Rows PySem.Calls
namespace Mine
theorem Fr.view {h₀ h : Heap} {L : Addr} {m m' : Str → Option Value} (F : Fr h₀ L h m) (e : ∀ y, m' y = m y) : Fr h₀ L h m' := by
  rw [show m' = m from funext e]; exact F
theorem put_eq {m : Str → Option Value} {k : Str} {v : Option Value} (h : m k = v) (y : Str) : (if y = k then v else m y) = m y := by
  by_cases e : y = k
  · rw [if_pos e, e, h]
  · rw [if_neg e]

theorem use_ct {d : Nat} {w : World} {f : Addr} {vs : List Value} {R : Value → List (Addr × Obj) → Prop} {A A' : Around} {base h₀ : Heap} {fr : List Env} {s : Shared} {L a : Addr} {cn : Str} {cs : Scope} {ccd : Value} {m : Str → Option Value} {news : List (Addr × Obj)}
    {mean : ExcName → Option Value} {mg mb : Str → Option Value} {Q E : Value → Shared → Prop}
    (hA : A' = A.deeper (envOf cn cs L a ccd)) (C : Ct d w f vs R) (B : Below A base fr h₀) (F : Fr h₀ L s.heap m) (X : (hd.heap_39 w.params).In h₀) (N : News h₀ L s.heap news) (T : Top hd.view_39 (looseW hd.view_39 []) mean mg mb h₀) (hk : cs.kind = .function)
    (hh : A.handled = none) (hdp : A.depth + (d + 1) < recursionLimit) (hun : A.units + 20 * d + 43 < cLine)
    (ret : ∀ (v : Value) (new : List (Addr × Obj)) (h' : Heap) (tk' : Nat) (g' : Array GenState), R v new → Fr h₀ L h' m → News h₀ L h' (news ++ new) → OwnOff new (news.map (·.1)) → (AllBare s.gens → AllBare g') → Q v ⟨h', g', s.drawn, tk', s.os⟩) :
    wpAny (model PR w) A' (call (.ref f) vs) Q E s := by
  subst hA
  refine C (A.deeper (envOf cn cs L a ccd)) base (envOf cn cs L a ccd :: fr) s Q E ⟨X.keeps F.keep, _, _, _, T.keeps F.keep⟩ (B.push F hk) ⟨hh, ?_, ?_⟩ fun v new h' tk' g' hR hext hown hnew hb => ?_
  · show A.depth + 1 + d < recursionLimit; omega
  · show A.units + 3 + 20 * d + 40 < cLine; omega
  · exact ret v new h' tk' g' hR (after_F F hext) (news_app (after_N N hext) (after_new F hown hnew)) (new_off N hnew) hb
/-- what a def hands back: a new list of its own -/
inductive ListR (P : Array Value → Prop) : Value → List (Addr × Obj) → Prop
  | mk (ra : Addr) (its : Array Value) (n : Nat) (h : P its) : ListR P (.ref ra) [(ra, listOf its n)]
theorem done_of {R : Value → List (Addr × Obj) → Prop} {s : Shared} {h' : Heap} {tk' : Nat} {g' : Array GenState} {L : Addr} {m : Str → Option Value} {led new : List (Addr × Obj)} {v : Value} (F : Fr s.heap L h' m) (N : News s.heap L h' led) (hR : R v new) (hn : ∀ p ∈ new, p ∈ led) (hb : AllBare s.gens → AllBare g') :
    DoneF R s (.ret v) ⟨h', g', s.drawn, tk', s.os⟩ := ⟨h', tk', g', new, rfl, hR, F.keep, fun p hp => (N p (hn p hp)).1, fun p hp => (N p (hn p hp)).2.2, hb⟩
theorem done_val {R : Value → List (Addr × Obj) → Prop} {s : Shared} {h' : Heap} {tk' : Nat} {g' : Array GenState} {L : Addr} {m : Str → Option Value} {v : Value} (F : Fr s.heap L h' m) (hR : R v []) (hb : AllBare s.gens → AllBare g') :
    DoneF R s (.ret v) ⟨h', g', s.drawn, tk', s.os⟩ := ⟨h', tk', g', [], rfl, hR, F.keep, (fun _ hp => (nomatch hp)), (fun _ hp => (nomatch hp)), hb⟩
end Mine

end

section
open PySem PySem.W PyProof.Rows PySem.Calls
namespace Mine
theorem reset_S1 : True := by w_top off; k_with_none; trivial

theorem lines_S1_0 : True := by
  k_with "execs cons" => ((refine' aft_flat ?e ?_; (case e => first | (dsimp only; done) | (dsimp only; exact rfl) | exact rfl); intro _ _ _))
  k_with "execs nil" => (refine wpAny_execs_nil ?_)
  k_with "exec If" => (refine wpAny_If ?_)
  k_with "Post next" => (first | refine aft_end (by with_reducible assumption) ?_ | refine aft_next (by with_reducible assumption) ?_)
  k_with "Post ret" => (refine aft_ret (by with_reducible assumption) ?_)
  k_with "Post brk" => (refine aft_brk (by with_reducible assumption) ?_)
  k_with "Post cont" => (refine aft_cont (by with_reducible assumption) ?_)
  k_with "GenPost ret" => (refine genPost_ret ?_)
  k_with "call" => (((with_reducible show wpAny _ _ (call (Value.type _) _) _ _ _); refine sub_A (by with_reducible assumption) ?_))
  trivial
noncomputable def stripSt (l : List Nat) : List (Nat × List Nat) → Nat → Option Nat → List (List Nat) → Nat × List (List Nat)
  | [], start, _, res => (start, res)
  | (p, c) :: r, start, op, res => if c = [34] then (match op with
      | none => stripSt l r start (some p) res
      | some o => stripSt l r (p + 1) none (if start = o then res else res ++ [(l.take o).drop start])) else stripSt l r start op res
theorem st_none (l : List Nat) (p : Nat) (c : List Nat) (r : List (Nat × List Nat)) (start : Nat) (res : List (List Nat)) : stripSt l ((p, c) :: r) start none res = if c = [34] then stripSt l r start (some p) res else stripSt l r start none res := rfl
theorem st_some (l : List Nat) (p : Nat) (c : List Nat) (r : List (Nat × List Nat)) (start o : Nat) (res : List (List Nat)) : stripSt l ((p, c) :: r) start (some o) res = if c = [34] then stripSt l r (p + 1) none (if start = o then res else res ++ [(l.take o).drop start]) else stripSt l r start (some o) res := rfl
noncomputable def stripEnd (l : List Nat) (q : Nat × List (List Nat)) : List Nat := (if q.1 < l.length then q.2 ++ [l.drop q.1] else q.2).flatten
noncomputable def stripL (l : List Nat) : List Nat := if 34 ∈ l then stripEnd l (stripSt l (escs l 0 false) 0 none []) else l

noncomputable def opV (op : Option Nat) (t : Tok) : Value := match op with
  | none => .none
  | some o => .int (o : Nat) t
inductive stripJ (l : List Nat) (t : Tok) (ra : Addr) (todo : List (Nat × List Nat)) (m : Str → Option Value) (mine : List (Addr × Obj)) : Prop
  | mk (start : Nat) (op : Option Nat) (res : List (List Nat)) (its : Array Value) (n : Nat) (ts tp : Tok) (e : mine = [(ra, listOf its n)]) (h : StrsAre its.toList (res.map S)) (e1 : m (Str.ofString "start") = some (.int (start : Nat) ts)) (e2 : m (Str.ofString "open_pos") = some (opV op tp)) (e3 : m (Str.ofString "addr") = some (.str (S l) t))
    (e4 : m (Str.ofString "result") = some (.ref ra)) (st : stripSt l todo start op res = stripSt l (escs l 0 false) 0 none []) (sz : its.size + todo.length ≤ l.length + 1) (rl : ∀ r ∈ res, r.length ≤ l.length)

theorem escs_len : ∀ (l : List Nat) (i : Nat) (b : Bool), (escs l i b).length ≤ l.length + 1
  | [], i, b => by cases b <;> simp [escs]
  | c :: r, i, true => by have := escs_len r (i + 1) false; simp only [escs, List.length_cons]; omega
  | c :: r, i, false => by
    simp only [escs]
    split
    · have := escs_len r (i + 1) true; simp only [List.length_cons]; omega
    · have := escs_len r (i + 1) false; simp only [List.length_cons]; omega

theorem strs_push {vs : List Value} {ys : List Str} {y : Str} {t : Tok} (h : StrsAre vs ys) : StrsAre (vs ++ [.str y t]) (ys ++ [y]) := by
  induction h with
  | nil => exact .cons y t .nil
  | cons z u _ ih => exact .cons z u ih
theorem strs_push' {its : Array Value} {res : List (List Nat)} {y : List Nat} {x : Str} {t : Tok} (h : StrsAre its.toList (res.map S)) (e : x = S y) : StrsAre (its.push (.str x t)).toList ((res ++ [y]).map S) := by
  subst e
  rw [Array.toList_push, List.map_append]; exact strs_push h
theorem strs_len {its : Array Value} {res : List (List Nat)} (h : StrsAre its.toList (res.map S)) : res.length = its.size := by
  have : ∀ {vs : List Value} {ys : List Str}, StrsAre vs ys → vs.length = ys.length := fun h => by
    induction h with
    | nil => rfl
    | cons _ _ _ ih => simp [ih]
  have := this h
  simpa using this.symm
theorem sum_fits {n : Nat} : ∀ {res : List (List Nat)}, (∀ r ∈ res, r.length ≤ n) → ((res.map S).map (·.length)).sum ≤ res.length * n
  | [], _ => by simp
  | a :: r, h => by
    have ih := sum_fits (res := r) fun x hx => h x (.tail _ hx)
    have ha := h a (.head _)
    simp only [List.map_cons, List.sum_cons, List.length_cons, S_len, Nat.succ_mul]
    omega
theorem join_fits {n k : Nat} {res : List (List Nat)} (h : ∀ r ∈ res, r.length ≤ n) (hl : res.length ≤ k) (hn : n < 1000) (hk : k ≤ 1002) : ((res.map S).map (·.length)).sum + (res.map S).length * 64 ≤ 16777216 := by
  have := sum_fits h
  have h2 : res.length * n ≤ 1002 * 1000 := Nat.mul_le_mul (by omega) (by omega)
  rw [List.length_map]
  omega
theorem quote_is : Str.ofString "\"" = S [34] := by decide

theorem strip_ct (w : World) (l : List Nat) (t : Tok) (hx : l.length < 1000) : Ct 3 w 84 [.str (S l) t] fun v new => (∃ t', v = .str (S (stripL l)) t') ∧ new = [] := by
  refine ct_enter (binds := [(Str.ofString "addr", .str (S l) t)]) (by k_is) (by k_is) (by rfl) (locs (by rfl)) ?_
  intro dp un gd base fr s h₁ tk mean mg mb A L hA hz hdp hun B X T F N
  have hx' : (S l).length < 1000 := by rw [S_len]; exact hx
  k_steps
  · rename _ = true => he
    have h34 : ¬ 34 ∈ l := by
      rw [show (Str.ofString "\"") = ⟨#[34]⟩ by decide, empty_one, S_cps] at he
      simpa using he
    try dsimp only
    exact done_val F ⟨⟨t, by rw [stripL, if_neg h34]⟩, rfl⟩ id
  · rename _ = false => he
    rename Fr _ _ _ _ => F₂
    rename News _ _ _ _ => N₂
    rename_i ra _ _ h₂ _ _ _
    have h34 : 34 ∈ l := by
      rw [show (Str.ofString "\"") = ⟨#[34]⟩ by decide, empty_one, S_cps] at he
      simpa using he
    refine for_gen (x := S l) (t := t) (stripJ l t ra) hz (by rw [hA]; show dp + 1 < recursionLimit; omega) rfl rfl rfl F₂ N₂ ⟨X, _, _, _, T⟩ ?_ ?_ ?_ ?_
    · intro Q' h'
      k_steps
      exact h'
    · exact ⟨0, none, [], _, _, _, 0, rfl, .nil, rfl, rfl, rfl, rfl, by rw [S_cps], by rw [S_cps]; exact Nat.le_trans (Nat.le_of_eq (by simp)) (escs_len l 0 false), nofun⟩
    · rintro ⟨pp, pc⟩ rest m₁ mine₁ own h gens tk t₁ u₁ ⟨start, op, res, its, n, ts, tp, rfl, hits, e1, e2, e3, e4, hst, hsz, hrl⟩ _ hoff hbare F₃ N₃
      have F₄ := Fr.view (m' := fun y => if y = Str.ofString "ch" then some (.str (S pc) u₁) else if y = Str.ofString "pos" then some (.int (pp : Nat) t₁) else if y = Str.ofString "start" then some (.int (start : Nat) ts) else if y = Str.ofString "open_pos" then some (opV op tp) else
        if y = Str.ofString "addr" then some (.str (S l) t) else if y = Str.ofString "result" then some (.ref ra) else m₁ y) F₃ (fun y => by rw [put_eq e4, put_eq e3, put_eq e2, put_eq e1])
      clear F₃
      simp only [List.cons_append, List.nil_append] at N₃
      dsimp only [List.map] at hoff
      clear F₂ N₂ e1 e2 e3 e4
      simp only [List.length_cons] at hsz
      have hsz' : its.size < 2000 := by omega
      cases op with
      | none =>
        rw [st_none] at hst
        dsimp only [opV] at F₄
        k_steps
        · rename _ = true => hq
          rw [quote_is, S_beq, beq_iff_eq] at hq
          rw [if_pos hq] at hst
          rename Fr _ _ _ _ => F₅
          rename News _ _ _ _ => N₅
          exact gen_turn [(ra, _)] F₅ N₅ rfl ⟨start, some pp, res, its, n, ts, t₁, rfl, hits, rfl, rfl, rfl, rfl, hst, by omega, hrl⟩
        · rename _ = false => hq
          rw [quote_is, S_beq, beq_eq_false_iff_ne] at hq
          rw [if_neg hq] at hst
          exact gen_turn [(ra, _)] F₄ N₃ rfl ⟨start, none, res, its, n, ts, 0, rfl, hits, rfl, rfl, rfl, rfl, hst, by omega, hrl⟩
      | some o =>
        rw [st_some] at hst
        dsimp only [opV] at F₄
        k_steps
        · rename _ = true => hq
          rename ((_ : Nat) : Int) ≠ _ => hne
          rw [quote_is, S_beq, beq_iff_eq] at hq
          rw [if_pos hq, if_neg (by omega)] at hst
          rename Fr _ _ _ _ => F₅
          rename News _ _ _ _ => N₅
          exact gen_turn [(ra, _)] F₅ N₅ rfl ⟨pp + 1, none, res ++ [(l.take o).drop start], _, _, _, 0, rfl, strs_push' hits (slice_nat l start o), rfl, rfl, rfl, rfl, hst, by simp only [Array.size_push]; omega, fun r hr => (List.mem_append.mp hr).elim (hrl r) fun e => by rw [List.mem_singleton.mp e]; simp only [List.length_drop, List.length_take]; omega⟩
        · rename _ = true => hq
          rw [quote_is, S_beq, beq_iff_eq] at hq
          rw [if_pos hq, if_pos (by omega)] at hst
          rename Fr _ _ _ _ => F₅
          rename News _ _ _ _ => N₅
          exact gen_turn [(ra, _)] F₅ N₅ rfl ⟨pp + 1, none, res, _, _, _, 0, rfl, hits, rfl, rfl, rfl, rfl, hst, by omega, hrl⟩
        · rename _ = false => hq
          rw [quote_is, S_beq, beq_eq_false_iff_ne] at hq
          rw [if_neg hq] at hst
          exact gen_turn [(ra, _)] F₄ N₃ rfl ⟨start, some o, res, its, n, ts, tp, rfl, hits, rfl, rfl, rfl, rfl, hst, by omega, hrl⟩
    · rintro m₁ mine₁ h gens tk ⟨start, op, res, its, n, ts, tp, rfl, hits, e1, e2, e3, e4, hst, hsz, hrl⟩ _ hbare F₃ N₃
      have F₄ := Fr.view (m' := fun y => if y = Str.ofString "start" then some (.int (start : Nat) ts) else if y = Str.ofString "addr" then some (.str (S l) t) else if y = Str.ofString "result" then some (.ref ra) else m₁ y) F₃ (fun y => by rw [put_eq e4, put_eq e3, put_eq e1])
      clear F₃ F₂ N₂ e1 e2 e3 e4
      have hsz' : its.size < 2000 := by omega
      try dsimp only
      k_steps
      · rename ((_ : Nat) : Int) < _ => hlt
        rename Fr _ _ _ _ => F₅
        rename News _ _ _ _ => N₅
        rw [S_len] at hlt
        refine join_listC (News.isList N₅ (.head _)) (strs_push' hits (slice_from l start)) (by decide) (join_fits (n := l.length) (fun r hr => (List.mem_append.mp hr).elim (hrl r) fun e => by rw [List.mem_singleton.mp e]; simp only [List.length_drop]; omega) (k := its.size + 1) (by rw [List.length_append, strs_len hits]; exact Nat.le_refl _) hx (by simp only [List.length_nil] at hsz; omega)) fun t' k => ?_
        k_steps
        refine done_val F₅ ⟨⟨t', ?_⟩, rfl⟩ hbare
        rw [join_empty, stripL, if_pos h34, ← hst, stripEnd]
        exact congrArg (fun z : List (List Nat) => Value.str (S z.flatten) t') (if_pos (show start < l.length by omega)).symm
      · rename ¬ ((_ : Nat) : Int) < _ => hlt
        rw [S_len] at hlt
        refine join_listC (News.isList N₃ (.head _)) hits (by decide) (join_fits hrl (Nat.le_of_eq (strs_len hits)) hx (by simp only [List.length_nil] at hsz; omega)) fun t' k => ?_
        k_steps
        refine done_val F₄ ⟨⟨t', ?_⟩, rfl⟩ hbare
        rw [join_empty, stripL, if_pos h34, ← hst, stripEnd]
        exact congrArg (fun z : List (List Nat) => Value.str (S z.flatten) t') (if_neg (show ¬ start < l.length by omega)).symm
end Mine

end

section
open PySem PySem.W PyProof.Rows PySem.Calls
namespace Mine
theorem reset_S2 : True := by w_top off; k_with_none; trivial

theorem lines_S2_0 : True := by
  k_with "execs cons" => ((refine' aft_flat ?e ?_; (case e => first | (dsimp only; done) | (dsimp only; exact rfl) | exact rfl); intro _ _ _))
  k_with "execs nil" => (refine wpAny_execs_nil ?_)
  k_with "exec If" => (refine wpAny_If ?_)
  k_with "Post next" => (first | refine aft_end (by with_reducible assumption) ?_ | refine aft_next (by with_reducible assumption) ?_)
  k_with "Post ret" => (refine aft_ret (by with_reducible assumption) ?_)
  k_with "Post brk" => (refine aft_brk (by with_reducible assumption) ?_)
  k_with "Post cont" => (refine aft_cont (by with_reducible assumption) ?_)
  k_with "GenPost ret" => (refine genPost_ret ?_)
  k_with "call" => (((with_reducible show wpAny _ _ (call (Value.type _) _) _ _ _); refine sub_A (by with_reducible assumption) ?_))
  trivial
noncomputable def chkGo : List (Nat × List Nat) → Int → Bool
  | [], o => decide (o = 0)
  | (_, c) :: r, o => if c = [40] then chkGo r (o + 1) else if c = [41] then (if o - 1 < 0 then false else chkGo r (o - 1)) else chkGo r o
noncomputable def chkL (l : List Nat) : Bool := chkGo (escs (stripL l) 0 false) 0
theorem chk_cons (p : Nat) (c : List Nat) (r : List (Nat × List Nat)) (o : Int) : chkGo ((p, c) :: r) o = if c = [40] then chkGo r (o + 1) else if c = [41] then (if o - 1 < 0 then false else chkGo r (o - 1)) else chkGo r o := rfl
theorem open_is : Str.ofString "(" = S [40] := by decide
theorem close_is : Str.ofString ")" = S [41] := by decide

inductive chkJ (b : Bool) (N : Nat) (todo : List (Nat × List Nat)) (m : Str → Option Value) (mine : List (Addr × Obj)) : Prop
  | mk (o : Int) (t : Tok) (e : mine = []) (e1 : m (Str.ofString "opens") = some (.int o t)) (g : chkGo todo o = b) (h : 0 ≤ o) (l : o + todo.length ≤ N)

theorem chk_ct (w : World) (l : List Nat) (t : Tok) (hx : l.length < 1000) : Ct 5 w 91 [.str (S l) t] fun v new => v = .bool (chkL l) ∧ new = [] := by
  refine ct_enter (binds := [(Str.ofString "addr", .str (S l) t)]) (by k_is) (by k_is) (by rfl) (locs (by rfl)) ?_
  intro dp un gd base fr s h₁ tk mean mg mb A L hA hz hdp hun B X T F N
  k_steps
  refine use_ct hA (strip_ct w l t hx) B F X N T rfl rfl (by show dp + 4 < _; omega) (by show un + 20 * 3 + 43 < _; omega) ?_
  rintro v new h₂ tk₂ g₂ ⟨⟨t', rfl⟩, rfl⟩ F₂ N₂ - hb₂
  clear F N
  simp only [List.append_nil] at N₂
  try dsimp only
  k_steps
  rename Fr _ _ _ _ => F₃
  rename News _ _ _ _ => N₃
  refine for_gen (x := S (stripL l)) (t := t') (chkJ (chkL l) ((escs (stripL l) 0 false).length + 1)) hz (by rw [hA]; show dp + 1 < recursionLimit; omega) rfl rfl rfl F₃ N₃ ⟨X, _, _, _, T⟩ ?_ ?_ ?_ ?_
  · intro Q' h'
    k_steps
    exact h'
  · exact ⟨0, _, rfl, rfl, by rw [S_cps]; rfl, by omega, by rw [S_cps]; omega⟩
  · rintro ⟨pp, pc⟩ rest m₁ mine₁ own h gens tk t₁ u₁ ⟨o, to, rfl, e1, hg, ho, hoN⟩ _ hoff hbare F₄ N₄
    have F₅ := Fr.view (m' := fun y => if y = Str.ofString "ch" then some (.str (S pc) u₁) else if y = Str.ofString "pos" then some (.int (pp : Nat) t₁) else if y = Str.ofString "opens" then some (.int o to) else m₁ y) F₄ (fun y => by rw [put_eq e1])
    clear F₄ F₃ N₃ e1
    simp only [List.nil_append] at N₄
    simp only [List.length_cons] at hoN
    rw [chk_cons] at hg
    k_steps
    · rename (S pc == _) = true => hq
      rw [open_is, S_beq, beq_iff_eq] at hq
      rw [if_pos hq] at hg
      rename Fr _ _ _ _ => F₆
      rename News _ _ _ _ => N₆
      exact gen_turn [] F₆ N₆ rfl ⟨o + 1, _, rfl, rfl, hg, by omega, by omega⟩
    · rename (S pc == _) = true => hq
      rename (S pc == _) = false => hp
      rename o - 1 < 0 => hlt
      rw [open_is, S_beq, beq_eq_false_iff_ne] at hp
      rw [close_is, S_beq, beq_iff_eq] at hq
      rw [if_neg hp, if_pos hq, if_pos hlt] at hg
      rename Fr _ _ _ _ => F₆
      k_steps
      exact done_val F₆ ⟨by rw [← hg], rfl⟩ fun hb => hbare (hb₂ hb)
    · rename (S pc == _) = true => hq
      rename (S pc == _) = false => hp
      rename ¬ (o - 1 < 0) => hlt
      rw [open_is, S_beq, beq_eq_false_iff_ne] at hp
      rw [close_is, S_beq, beq_iff_eq] at hq
      rw [if_neg hp, if_pos hq, if_neg hlt] at hg
      rename Fr _ _ _ _ => F₆
      rename News _ _ _ _ => N₆
      exact gen_turn [] F₆ N₆ rfl ⟨o - 1, _, rfl, rfl, hg, by omega, by omega⟩
    · rename (S pc == Str.ofString ")") = false => hq
      rename (S pc == Str.ofString "(") = false => hp
      rw [open_is, S_beq, beq_eq_false_iff_ne] at hp
      rw [close_is, S_beq, beq_eq_false_iff_ne] at hq
      rw [if_neg hp, if_neg hq] at hg
      exact gen_turn [] F₅ N₄ rfl ⟨o, to, rfl, rfl, hg, by omega, by omega⟩
  · rintro m₁ mine₁ h gens tk ⟨o, to, rfl, e1, hg, ho, hoN⟩ _ hbare F₄ N₄
    have F₅ := Fr.view (m' := fun y => if y = Str.ofString "opens" then some (.int o to) else m₁ y) F₄ (fun y => by rw [put_eq e1])
    clear F₄ F₃ N₃ e1
    try dsimp only
    k_steps
    try dsimp only
    refine done_val F₅ ⟨?_, rfl⟩ fun hb => hbare (hb₂ hb)
    rw [← hg]
    congr 1
end Mine

end

section
open PySem PySem.W PyProof.Rows PySem.Calls
namespace Mine
theorem reset_S3 : True := by w_top off; k_with_none; trivial

theorem lines_S3_0 : True := by
  k_with "execs cons" => ((refine' aft_flat ?e ?_; (case e => first | (dsimp only; done) | (dsimp only; exact rfl) | exact rfl); intro _ _ _))
  k_with "execs nil" => (refine wpAny_execs_nil ?_)
  k_with "exec If" => (refine wpAny_If ?_)
  k_with "Post next" => (first | refine aft_end (by with_reducible assumption) ?_ | refine aft_next (by with_reducible assumption) ?_)
  k_with "Post ret" => (refine aft_ret (by with_reducible assumption) ?_)
  k_with "Post brk" => (refine aft_brk (by with_reducible assumption) ?_)
  k_with "Post cont" => (refine aft_cont (by with_reducible assumption) ?_)
  k_with "GenPost ret" => (refine genPost_ret ?_)
  k_with "call" => (((with_reducible show wpAny _ _ (call (Value.type _) _) _ _ _); refine sub_A (by with_reducible assumption) ?_))
  trivial
noncomputable def takenL (l d : List Nat) : Bool := chkL (l.take 1 ++ d ++ l.drop 1)

theorem taken_ct (w : World) (l d : List Nat) (t t' : Tok) (hl : l.length < 100) (hd' : d.length < 100) : Ct 6 w 105 [.str (S l) t, .str (S d) t'] fun v new => v = .bool (takenL l d) ∧ new = [] := by
  refine ct_enter (binds := [(Str.ofString "stretch", .str (S l) t), (Str.ofString "dress", .str (S d) t')]) (by k_is) (by k_is) (by rfl) (locs (by rfl)) ?_
  intro dp un gd base fr s h₁ tk mean mg mb A L hA hz hdp hun B X T F N
  have hl' : (S l).length < 100 := by rw [S_len]; exact hl
  have hd'' : (S d).length < 100 := by rw [S_len]; exact hd'
  k_steps
  rename Fr _ _ _ _ => F₂
  rename News _ _ _ _ => N₂
  rename Tok => u
  have e : Txt.slice (S l) none (some 1) ++ S d ++ Txt.slice (S l) (some 1) none = S (l.take 1 ++ d ++ l.drop 1) := by
    rw [show (some (1 : Int)) = some ((1 : Nat) : Int) from rfl, slice_to, slice_from, S_app, S_app]
  rw [e]
  refine use_ct hA (chk_ct w _ _ (by simp only [List.length_append, List.length_take, List.length_drop]; omega)) B F₂ X N₂ T rfl rfl (by show dp + 6 < _; omega) (by show un + 20 * 5 + 43 < _; omega) ?_
  rintro v new h₂ tk₂ g₂ ⟨rfl, rfl⟩ F₃ N₃ - hb₂
  k_steps
  exact done_val F₃ ⟨rfl, rfl⟩ hb₂
end Mine

end

section
open PySem PySem.W PyProof.Rows PySem.Calls
namespace Mine

noncomputable def TurnEnd (h₀ : Heap) (L : Addr) (own : List (Addr × Obj)) (adr : List Addr) (J : (Str → Option Value) → List (Addr × Obj) → Prop) (s s₂ : Shared) : Prop :=
  ∃ h' tk' g' m' mine', s₂ = ⟨h', g', s.drawn, tk', s.os⟩ ∧ Fr h₀ L h' m' ∧ News h₀ L h' (mine' ++ own) ∧ mine'.map (·.1) = adr ∧ J m' mine' ∧ (AllBare s.gens → AllBare g')
theorem turn_next {h₀ h' : Heap} {L : Addr} {own : List (Addr × Obj)} {adr : List Addr} {J : (Str → Option Value) → List (Addr × Obj) → Prop} {s : Shared} {m' : Str → Option Value} {g' : Array GenState} {tk' : Nat} (mine' : List (Addr × Obj))
    (F : Fr h₀ L h' m') (N : News h₀ L h' (mine' ++ own)) (e : mine'.map (·.1) = adr) (j : J m' mine') (b : AllBare s.gens → AllBare g') : TurnEnd h₀ L own adr J s ⟨h', g', s.drawn, tk', s.os⟩ := ⟨h', tk', g', m', mine', rfl, F, N, e, j, b⟩
noncomputable def TurnPost (R : Result → Shared → Prop) (T : Shared → Prop) (f : Flow) (s₂ : Shared) : Prop := match f with
  | .ret v => R (.ok (.ret v)) s₂
  | .brk => R (.ok .next) s₂
  | _ => T s₂

noncomputable def ownOf (h₀ h : Heap) (fp : List Addr) : List (Addr × Obj) := fp.filterMap fun b => match h₀.get? b, h.get? b with
  | none, some o => some (b, o)
  | _, _ => none
theorem ownOf_mem {h₀ h : Heap} {fp : List Addr} {b : Addr} {o : Obj} (hb : b ∈ fp) (h1 : h₀.get? b = none) (h2 : h.get? b = some o) : (b, o) ∈ ownOf h₀ h fp :=
  List.mem_filterMap.mpr ⟨b, hb, by rw [h1, h2]⟩
theorem ownOf_is {h₀ h : Heap} {fp : List Addr} {p : Addr × Obj} (hp : p ∈ ownOf h₀ h fp) : p.1 ∈ fp ∧ h₀.get? p.1 = none ∧ h.get? p.1 = some p.2 := by
  obtain ⟨b, hb, e⟩ := List.mem_filterMap.mp hp
  split at e
  · rename_i h1 h2; cases e; exact ⟨hb, h1, h2⟩
  · cases e

/-- what holds ahead of each turn of a for -/
inductive LoopI (h₀ : Heap) (L : Addr) (s : Shared) (n : Nat) (St : Nat → Heap → Prop) (ad : List Addr) (fixed : List (Addr × Obj)) (J : Nat → (Str → Option Value) → List (Addr × Obj) → Prop) (k : Nat) (s' : Shared) : Prop
  | mk (i : Nat) (m₁ : Str → Option Value) (mine₁ : List (Addr × Obj)) (h : Heap) (gens : Array GenState) (tk : Nat) (ek : k = n + 1 - i) (hi : i ≤ n) (es : s' = ⟨h, gens, s.drawn, tk, s.os⟩) (st : St i h) (F : Fr h₀ L h m₁) (N : News h₀ L h (mine₁ ++ fixed)) (adr : mine₁.map (·.1) = ad) (hJ : J i m₁ mine₁) (hb : AllBare s.gens → AllBare gens)
section
variable {w : World} {A : Around} {h₀ : Heap} {env : Env} {s : Shared} {R : Result → Shared → Prop} {E : Value → Shared → Prop}
/-- a loop, with objects that stay beside those that turn -/
theorem loop_fixE {x : Str} {px : Pos} {body : List Stmt} {I : Addr} {fp wr : List Addr} {n : Nat} {P : Nat → Value → Prop} {St : Nat → Heap → Prop} {m : Str → Option Value} {mine fixed : List (Addr × Obj)}
    (W : Walks PR w A I fp wr n P St) (J : Nat → (Str → Option Value) → List (Addr × Obj) → Prop) (hk : env.scope.kind = .function)
    (hx : env.kindOf x = some .local)
    (hLf : env.locals ∉ fp) (hwr : ∀ b ∈ wr, h₀.get? b = none) (hnf : ∀ b ∈ mine.map (·.1), b ∉ fp) (hfx : ∀ b ∈ fixed.map (·.1), b ∉ wr)
    (hst : St 0 s.heap) (F : Fr h₀ env.locals s.heap m) (N : News h₀ env.locals s.heap (mine ++ fixed)) (hj : J 0 m mine)
    (turn : ∀ i v m₁ mine₁ own h gens tk, i < n → P i v → J i m₁ mine₁ → mine₁.map (·.1) = mine.map (·.1) → OwnOff own (mine.map (·.1)) → (AllBare s.gens → AllBare gens) →
      Fr h₀ env.locals h (fun y => if y = x then some v else m₁ y) → News h₀ env.locals h (mine₁ ++ (fixed ++ own)) →
      wpAny (model PR w) A (execs body env) (TurnPost R (TurnEnd h₀ env.locals (fixed ++ own) (mine.map (·.1)) (J (i + 1)) s)) (fun _ _ => False) ⟨h, gens, s.drawn, tk, s.os⟩)
    (done : ∀ m₁ mine₁ h gens tk, J n m₁ mine₁ → mine₁.map (·.1) = mine.map (·.1) → (AllBare s.gens → AllBare gens) → Fr h₀ env.locals h m₁ → News h₀ env.locals h (mine₁ ++ fixed) → R (.ok .next) ⟨h, gens, s.drawn, tk, s.os⟩) :
    codeAny (model PR w) A (.forLoop (.Name x px) (.ref I) body [] env) R s := by
  have hp0 : (env.scope.kind == .class || (env.scope.kind == .module && env.locals != env.globals)) = false := by
    rw [hk]; rfl
  have hLw : env.locals ∉ wr := fun h => hLf (W.sub _ h)
  refine codeAny_forLoop (LoopI h₀ env.locals s n St (mine.map (·.1)) fixed J) ?_ (n + 1)
    ⟨0, m, mine, s.heap, s.gens, s.toks, rfl, Nat.zero_le _, rfl, hst, F, N, rfl, hj, id⟩ (fun _ => rfl)
  rintro k s' ⟨i, m₁, mine₁, h, gens, tk, rfl, hi, rfl, st, F₁, N₁, adr₁, hJ, hb⟩
  have offw : ∀ p ∈ mine₁ ++ fixed, p.1 ∉ wr := fun p hp => by
    rcases List.mem_append.mp hp with hp | hp
    · exact fun hw => hnf p.1 (by rw [← adr₁]; exact List.mem_map.mpr ⟨p, hp, rfl⟩) (W.sub _ hw)
    · exact hfx p.1 (List.mem_map.mpr ⟨p, hp, rfl⟩)
  have after : ∀ {h'}, (∀ b o, b ∉ wr → h.get? b = some o → h'.get? b = some o) → Fr h₀ env.locals h' m₁ ∧ News h₀ env.locals h' (mine₁ ++ fixed) := fun {h'} hk => by
    refine ⟨⟨F₁.ns.at' fun o ho => hk env.locals o hLw ho, fun b o ho => hk b o (fun hb => by rw [hwr b hb] at ho; cases ho) (F₁.keep b o ho), F₁.above⟩, fun p hp => ⟨hk p.1 p.2 (offw p hp) (N₁ p hp).1, (N₁ p hp).2⟩⟩
  by_cases hlt : i < n
  · refine W.item i ⟨h, gens, s.drawn, tk, s.os⟩ _ _ hlt st fun v h' tk' hP st' hk' => ?_
    obtain ⟨F', N'⟩ := after hk'
    refine wpAny_assign_Name (wpAny_storeName_local hx F'.ns (fun h₂ hn₂ hs₂ => ?_) hp0)
    have F₂ := F'.set hn₂ hs₂
    have N₂ : News h₀ env.locals h₂ (mine₁ ++ fixed) := N'.set hs₂
    have st₂ : St (i + 1) h₂ := W.frame _ _ _ st' fun b hb o ho => hs₂.extBut b o (fun e => hLf ((show b = env.locals from e) ▸ hb)) ho
    have NO : News h₀ env.locals h₂ (ownOf h₀ h₂ fp) := fun p hp => let ⟨q1, q2, q3⟩ := ownOf_is hp; ⟨q3, fun e => hLf (e ▸ q1), q2⟩
    have off : OwnOff (ownOf h₀ h₂ fp) (mine.map (·.1)) := fun p hp b hb e => hnf b hb (e ▸ (ownOf_is hp).1)
    have N₃ : News h₀ env.locals h₂ (mine₁ ++ (fixed ++ ownOf h₀ h₂ fp)) := by
      rw [← List.append_assoc]; exact news_app N₂ NO
    refine wpAny_mono (turn i v m₁ mine₁ (ownOf h₀ h₂ fp) h₂ gens _ hlt hP hJ adr₁ off hb F₂ N₃) (fun f s₂ hp => ?_) fun _ _ x => x.elim
    have fin : TurnEnd h₀ env.locals (fixed ++ ownOf h₀ h₂ fp) (mine.map (·.1)) (J (i + 1)) s s₂ → ∃ k', k' < n + 1 - i ∧ LoopI h₀ env.locals s n St (mine.map (·.1)) fixed J k' s₂ := by
      rintro ⟨h₃, tk₃, g₃, m₃, mine₃, rfl, F₃, N₃, adr₃, hJ₃, hb₃⟩
      refine ⟨n + 1 - (i + 1), by omega, i + 1, m₃, mine₃, h₃, g₃, tk₃, rfl, hlt, rfl, ?_, F₃, fun p hp => N₃ p ?_, adr₃, hJ₃, hb₃⟩
      · refine W.frame _ _ _ st₂ fun b hb o ho => ?_
        cases q : h₀.get? b with
        | none => exact (N₃ (b, o) (List.mem_append.mpr (.inr (List.mem_append.mpr (.inr (ownOf_mem hb q ho)))))).1
        | some o' =>
          have e : o = o' := Option.some.inj (ho.symm.trans (F₂.keep b o' q))
          rw [e]; exact F₃.keep b o' q
      · rcases List.mem_append.mp hp with hp | hp
        · exact List.mem_append.mpr (.inl hp)
        · exact List.mem_append.mpr (.inr (List.mem_append.mpr (.inl hp)))
    cases f with
    | ret v => exact hp
    | brk => exact hp
    | next => exact fin hp
    | cont => exact fin hp
  · have hin : i = n := by omega
    subst hin
    refine W.done ⟨h, gens, s.drawn, tk, s.os⟩ _ _ st fun h' tk' hk' => wpAny_execs_nil ?_
    obtain ⟨F', N'⟩ := after hk'
    exact done m₁ mine₁ h' gens tk' hJ adr₁ hb F' N'

end
section
variable {w : World} {A : Around} {h₀ : Heap} {name : Str} {scope : Scope} {L a₀ : Addr} {cd : Value} {s : Shared} {R : Result → Shared → Prop}

theorem loop_walk {x : Str} {px : Pos} {body : List Stmt} {I : Addr} {fp wr : List Addr} {n : Nat} {P : Nat → Value → Prop} {St : Nat → Heap → Prop} {m : Str → Option Value} {mine : List (Addr × Obj)}
    (W : Walks PR w A I fp wr n P St) (J : Nat → (Str → Option Value) → List (Addr × Obj) → Prop) (hk : scope.kind = .function)
    (hx : (envOf name scope L a₀ cd).kindOf x = some .local)
    (hLf : L ∉ fp) (hwr : ∀ b ∈ wr, h₀.get? b = none) (hnf : ∀ b ∈ mine.map (·.1), b ∉ fp)
    (hst : St 0 s.heap) (F : Fr h₀ L s.heap m) (N : News h₀ L s.heap mine) (hj : J 0 m mine)
    (turn : ∀ i v m₁ mine₁ own h gens tk, i < n → P i v → J i m₁ mine₁ → mine₁.map (·.1) = mine.map (·.1) → OwnOff own (mine.map (·.1)) → (AllBare s.gens → AllBare gens) →
      Fr h₀ L h (fun y => if y = x then some v else m₁ y) → News h₀ L h (mine₁ ++ own) →
      wpAny (model PR w) A (execs body (envOf name scope L a₀ cd)) (TurnPost R (TurnEnd h₀ L own (mine.map (·.1)) (J (i + 1)) s)) (fun _ _ => False) ⟨h, gens, s.drawn, tk, s.os⟩)
    (done : ∀ m₁ mine₁ h gens tk, J n m₁ mine₁ → mine₁.map (·.1) = mine.map (·.1) → (AllBare s.gens → AllBare gens) → Fr h₀ L h m₁ → News h₀ L h mine₁ → R (.ok .next) ⟨h, gens, s.drawn, tk, s.os⟩) :
    codeAny (model PR w) A (.forLoop (.Name x px) (.ref I) body [] (envOf name scope L a₀ cd)) R s := by
  refine loop_fixE (env := envOf name scope L a₀ cd) (mine := mine) (fixed := []) W J hk hx hLf hwr hnf (fun b hb => nomatch hb) hst F (by rw [List.append_nil]; exact N) hj turn ?_
  intro m₁ mine₁ h gens tk hJ e hb F₁ N₁
  rw [List.append_nil] at N₁
  exact done m₁ mine₁ h gens tk hJ e hb F₁ N₁

noncomputable def WhileEnd (J : Nat → Shared → Prop) (n : Nat) (s : Shared) : Prop := ∃ k, k < n ∧ J k s
/-- a while by an invariant and a measure -/
theorem while_inv {test : PySem.Expr} {body : List Stmt} {pos : Pos} {env : Env} {Q : Flow → Shared → Prop} {E : Value → Shared → Prop} (J : Nat → Shared → Prop) (n : Nat) (hj : J n s)
    (turn : ∀ n s', J n s' → wpAny (model PR w) A (isTrue test env (eval test env)) (fun b s₂ => if b = true then wpAny (model PR w) A (execs body env) (GenPost Q (WhileEnd J n)) (fun _ _ => False) s₂ else Q .next s₂) (fun _ _ => False) s') :
    wpAny (model PR w) A (exec (.While test body [] pos) env) Q E s := by
  refine wpAny_While (codeAny_whileLoop J (fun n s' hJ => wpAny_mono (turn n s' hJ) (fun b s₂ h => ?_) fun _ _ x => x.elim) n hj)
  cases b with
  | true =>
    rw [if_pos rfl] at h ⊢
    refine wpAny_mono h (fun f s₃ h₃ => ?_) fun _ _ x => x.elim
    cases f <;> exact h₃
  | false =>
    rw [if_neg Bool.false_ne_true] at h ⊢
    exact wpAny_execs_nil h
end
end Mine

end

section
open PySem PySem.W PyProof.Rows PySem.Calls
namespace Mine
noncomputable def Held (P : Prop) : Prop := P
theorem held {P : Prop} (h : Held P) : P := h
theorem held_for {M : Model} {A : Around} {x i : PySem.Expr} {b o r : List Stmt} {p : Pos} {env : Env} {Q : Flow → Shared → Prop} {E : Value → Shared → Prop} {s : Shared} (h : Held (wpAny M A (execs (.For x i b o p :: r) env) Q E s)) : wpAny M A (execs (.For x i b o p :: r) env) Q E s := h
theorem held_one {M : Model} {A : Around} {ts : List PySem.Expr} {f v sl : PySem.Expr} {ps pc pa : Pos} {r : List Stmt} {env : Env} {Q : Flow → Shared → Prop} {E : Value → Shared → Prop} {s : Shared} (h : Held (wpAny M A (execs (.Assign ts (.Call f [.Subscript v sl ps] [] pc) pa :: r) env) Q E s)) : wpAny M A (execs (.Assign ts (.Call f [.Subscript v sl ps] [] pc) pa :: r) env) Q E s := h
theorem held_abcd {M : Model} {A : Around} {t : Tok} {Q E : Value → Shared → Prop} {s : Shared} (h : Held (wpAny M A (call (.type "list") [.str (Str.ofString "abcd") t]) Q E s)) : wpAny M A (call (.type "list") [.str (Str.ofString "abcd") t]) Q E s := h
theorem held_sub {M : Model} {A : Around} {es : List PySem.Expr} {p : Pos} {sl : PySem.Expr} {l : Addr} {k : Int} {u : Tok} {Q E : Value → Shared → Prop} {s : Shared} (h : Held (wpAny M A (subscriptTail (.List es p) sl (.ref l) (.int k u)) Q E s)) : wpAny M A (subscriptTail (.List es p) sl (.ref l) (.int k u)) Q E s := h
theorem unheld {P : Prop} (h : P) : Held P := h

section
variable {w : World} {A : Around} {h₀ : Heap} {name : Str} {scope : Scope} {L a₀ : Addr} {cd : Value} {s : Shared} {R : Result → Shared → Prop} {E : Value → Shared → Prop}

theorem next_off {m : Str → Option Value} {mine : List (Addr × Obj)} (F : Fr h₀ L s.heap m) (N : News h₀ L s.heap mine) : L ≠ s.heap.objs.size ∧ h₀.get? s.heap.objs.size = none ∧ ∀ b ∈ mine.map (·.1), b ≠ s.heap.objs.size := by
  have nb : ∀ c o, s.heap.get? c = some o → c ≠ s.heap.objs.size := fun c o ho => Nat.ne_of_lt (Heap.lt_size ho)
  refine ⟨?_, ?_, fun b hb => ?_⟩
  · obtain ⟨oL, _, _, hL, _⟩ := F.ns; exact nb L oL hL
  · cases q : h₀.get? s.heap.objs.size with
    | none => rfl
    | some o => exact absurd rfl (nb _ o (F.keep _ _ q))
  · obtain ⟨p, hp, rfl⟩ := List.mem_map.mp hb
    exact nb p.1 p.2 (N p hp).1

/-- a loop over range(a, b) -/
theorem range_loop {x : Str} {px : Pos} {body : List Stmt} {r : Addr} {lo hi : Int} {a b : Nat} {t u v : Tok} {m : Str → Option Value} {mine : List (Addr × Obj)}
    (hr : IsRange s.heap r lo hi 1 t u v) (hlo : lo = (a : Nat)) (hhi : hi = (b : Nat)) (ha : a < 1000000) (hb : b < 1000000) (hh : A.handled = none)
    (J : Nat → (Str → Option Value) → List (Addr × Obj) → Prop) (hk : scope.kind = .function)
    (hx : (envOf name scope L a₀ cd).kindOf x = some .local)
    (F : Fr h₀ L s.heap m) (N : News h₀ L s.heap mine) (hj : J 0 m mine)
    (turn : ∀ i ti m₁ mine₁ own h gens tk, a + i < b → J i m₁ mine₁ → mine₁.map (·.1) = mine.map (·.1) → OwnOff own (mine.map (·.1)) → (AllBare s.gens → AllBare gens) →
      Fr h₀ L h (fun y => if y = x then some (.int ((a + i : Nat) : Int) ti) else m₁ y) → News h₀ L h (mine₁ ++ own) →
      wpAny (model PR w) A (execs body (envOf name scope L a₀ cd)) (TurnPost R (TurnEnd h₀ L own (mine.map (·.1)) (J (i + 1)) s)) (fun _ _ => False) ⟨h, gens, s.drawn, tk, s.os⟩)
    (done : ∀ m₁ mine₁ h gens tk, J (b - a) m₁ mine₁ → mine₁.map (·.1) = mine.map (·.1) → (AllBare s.gens → AllBare gens) → Fr h₀ L h m₁ → News h₀ L h mine₁ → R (.ok .next) ⟨h, gens, s.drawn, tk, s.os⟩) :
    wpAny (model PR w) A (pyIter (.ref r)) (fun it s₂ => codeAny (model PR w) A (.forLoop (.Name x px) it body [] (envOf name scope L a₀ cd)) R s₂) E s := by
  subst hlo hhi
  refine wpAny_pyIter_range hr (small_one (by omega) (by omega) (by omega) (by omega)) ?_
  have hn : Builtin.Range.rangeSize (a : Int) (b : Int) 1 = ((b - a : Nat) : Int) := by
    rw [rangeSize_one]; split <;> omega
  rw [hn]
  obtain ⟨o1, o2, o3⟩ := next_off F N
  have W := Walks.range (prog := PR) (w := w) hh s.heap.objs.size (a : Int) 1 (b - a)
  refine loop_walk (s := ⟨_, s.gens, s.drawn, s.toks, s.os⟩) W J hk hx (by simpa using o1) (by simpa using o2) (fun c hc => by simpa using o3 c hc) ?_ (F.push _) (fun p hp => ⟨Heap.get?_push_of_some _ (N p hp).1, (N p hp).2⟩) hj ?_ done
  · show IsRangeIter _ _ _ _ _
    rw [show (a : Int) + ((0 : Nat) : Int) * 1 = a by omega, show ((b - a : Nat) : Int) - ((0 : Nat) : Int) = ((b - a : Nat) : Int) by omega]
    exact Heap.get?_push_size _ rfl
  · rintro i v m₁ mine₁ own h gens tk hi ⟨ti, rfl⟩ hJ adr off hbare F₁ N₁
    rw [show (a : Int) + (i : Int) * 1 = ((a + i : Nat) : Int) by omega] at F₁
    exact turn i ti m₁ mine₁ own h gens tk (by omega) hJ adr off hbare F₁ N₁
end
end Mine

end

section
open PySem PySem.W PyProof.Rows PySem.Calls
namespace Mine
theorem reset_S4 : True := by w_top off; k_with_none; trivial

theorem lines_S4_0 : True := by
  k_with "execs cons" => ((refine' aft_flat ?e ?_; (case e => first | (dsimp only; done) | (dsimp only; exact rfl) | exact rfl); intro _ _ _))
  k_with "execs nil" => (refine wpAny_execs_nil ?_)
  k_with "exec If" => (refine wpAny_If ?_)
  k_with "Post next" => (first | refine aft_end (by with_reducible assumption) ?_ | refine aft_next (by with_reducible assumption) ?_)
  k_with "Post ret" => (refine aft_ret (by with_reducible assumption) ?_)
  k_with "Post brk" => (refine aft_brk (by with_reducible assumption) ?_)
  k_with "Post cont" => (refine aft_cont (by with_reducible assumption) ?_)
  k_with "GenPost ret" => (refine genPost_ret ?_)
  k_with "call" => (((with_reducible show wpAny _ _ (call (Value.type _) _) _ _ _); refine sub_A (by with_reducible assumption) ?_))
  k_with "exec For Name Call cons nil" => (refine held ?_)
  k_with "exec While" => (refine held ?_)
  k_with "pyIter ref" => (refine held ?_)
  trivial
noncomputable def spanEnd (l d : List Nat) (start : Nat) : Nat → Nat → Nat
  | 0, e => e
  | f + 1, e => if e < l.length ∧ takenL ((l.take e).drop start) d = false then spanEnd l d start f (e + 2) else e
noncomputable def spanAt (l d : List Nat) (s : Nat) : Int := (((spanEnd l d s l.length (s + 2) - s) / 2 : Nat) : Int)
noncomputable def spansTo (l d : List Nat) (n : Nat) : List Int := ((List.range n).filter fun i => l[i]? == some 40).map (spanAt l d)
noncomputable def spansL (l d : List Nat) : List Int := spansTo l d l.length

inductive spansJ (l d : List Nat) (t t' : Tok) (ra : Addr) (i : Nat) (m : Str → Option Value) (mine : List (Addr × Obj)) : Prop
  | mk (its : Array Value) (n : Nat) (e : mine = [(ra, listOf its n)]) (h : IntsAre its.toList (spansTo l d i)) (e1 : m (Str.ofString "row") = some (.str (S l) t)) (e2 : m (Str.ofString "dress") = some (.str (S d) t')) (e3 : m (Str.ofString "spans") = some (.ref ra)) (z : its.size ≤ i)

/-- what holds ahead of each turn of the while -/
inductive spansW (s : Shared) (L : Addr) (led : List (Addr × Obj)) (m : Nat → Tok → Str → Option Value) (l d : List Nat) (i k : Nat) (s' : Shared) : Prop
  | mk (e : Nat) (te : Tok) (h₂ : Heap) (g₂ : Array GenState) (tk₂ : Nat) (eq : s' = ⟨h₂, g₂, s.drawn, tk₂, s.os⟩) (F : Fr s.heap L h₂ (m e te)) (N : News s.heap L h₂ led) (b : AllBare s.gens → AllBare g₂) (l1 : i + 2 ≤ e) (l2 : e < l.length + 2 + i) (l3 : l.length ≤ e + 2 * k) (st : spanEnd l d i k e = spanEnd l d i l.length (i + 2))
theorem Fr.again {h₀ h : Heap} {L : Addr} {m : Str → Option Value} {k : Str} {v v' : Option Value} (F : Fr h₀ L h (fun y => if y = k then v else if y = k then v' else m y)) : Fr h₀ L h (fun y => if y = k then v else m y) :=
  Fr.view F fun y => by by_cases e : y = k <;> simp [e]
theorem seqIndex?_nat {i n : Nat} (h : i < n) : seqIndex? (i : Int) n = some i := by
  unfold seqIndex?
  simp
  omega
theorem item_nat (l : List Nat) (i : Nat) (h : i < l.length) : Txt.item (S l) (i : Int) = S [l[i]] := by
  have h1 : seqIndex? (i : Int) (S l).length = some i := by rw [S_len]; exact seqIndex?_nat h
  unfold Txt.item
  rw [show Txt.charAt (S l) (i : Int) = (S l).cps[i]? by unfold Txt.charAt; rw [h1]; rfl]
  simp [h]
theorem ints_push {its : Array Value} {ns : List Int} {v : Int} {t : Tok} (h : IntsAre its.toList ns) : IntsAre (its.push (.int v t)).toList (ns ++ [v]) := by
  rw [Array.toList_push]
  generalize its.toList = vs at h
  induction h with
  | nil => exact .cons v t .nil
  | cons z u _ ih => exact .cons z u ih
theorem spanEnd_stop {l d : List Nat} {i k e : Nat} (h : ¬ (e < l.length ∧ takenL ((l.take e).drop i) d = false)) : spanEnd l d i k e = e := by
  cases k with
  | zero => rfl
  | succ k => rw [spanEnd, if_neg h]
theorem spanEnd_go {l d : List Nat} {i k e : Nat} (h1 : e < l.length) (h2 : takenL ((l.take e).drop i) d = false) : spanEnd l d i (k + 1) e = spanEnd l d i k (e + 2) := by
  rw [spanEnd, if_pos ⟨h1, h2⟩]
theorem spansTo_succ (l d : List Nat) (i : Nat) : spansTo l d (i + 1) = if l[i]? = some 40 then spansTo l d i ++ [spanAt l d i] else spansTo l d i := by
  unfold spansTo
  rw [List.range_succ, List.filter_append]
  by_cases h : l[i]? = some 40
  · simp [h]
  · simp [h]
theorem half_nat (a b : Nat) (h : b ≤ a) : Int.fdiv ((a : Int) - b) 2 = (((a - b) / 2 : Nat) : Int) := by
  rw [Int.fdiv_eq_ediv_of_nonneg _ (by decide)]; omega
theorem ints_span {its : Array Value} {l d : List Nat} {i e : Nat} {t : Tok} (h : IntsAre its.toList (spansTo l d i)) (h40 : l[i]? = some 40) (he : i ≤ e) (hs : spanEnd l d i l.length (i + 2) = e) :
    IntsAre (its.push (.int (Int.fdiv ((e : Int) - (i : Int)) 2) t)).toList (spansTo l d (i + 1)) := by
  rw [spansTo_succ, if_pos h40, half_nat e i he]
  have := ints_push (t := t) (v := spanAt l d i) h
  unfold spanAt at this ⊢
  rw [hs] at this ⊢
  exact this
theorem item_open (l : List Nat) (i : Nat) (h : i < l.length) (b : Bool) (e : (Txt.item (S l) (i : Int) == Str.ofString "(") = b) : decide (l[i]? = some 40) = b := by
  rw [item_nat l i h, open_is, S_beq] at e
  rw [← e, Bool.eq_iff_iff, decide_eq_true_iff, beq_iff_eq]
  simp [h]
theorem spans_ct (w : World) (l d : List Nat) (t t' : Tok) (hl : l.length < 100) (hd' : d.length < 100) : Ct 7 w 112 [.str (S l) t, .str (S d) t'] (ListR fun its => IntsAre its.toList (spansL l d)) := by
  refine ct_enter (binds := [(Str.ofString "row", .str (S l) t), (Str.ofString "dress", .str (S d) t')]) (by k_is) (by k_is) (by rfl) (locs (by rfl)) ?_
  intro dp un gd base fr s h₁ tk mean mg mb A L hA hz hdp hun B X T F N
  have hl' : (S l).length < 100 := by rw [S_len]; exact hl
  have hd'' : (S d).length < 100 := by rw [S_len]; exact hd'
  k_steps
  refine unheld (wpAny_For ?_)
  k_steps
  refine unheld ?_
  rename IsRange _ _ _ _ _ _ _ _ => hr
  rename Fr _ _ _ _ => F₂
  rename News _ _ _ _ => N₂
  rename_i ra _ _ _ _ _ _ _ _ _ _ _ _ _ _
  refine range_loop (a := 0) (b := l.length) hr rfl (by rw [S_len]) (by decide) (by omega) hz (spansJ l d t t' ra) rfl rfl F₂ N₂ ⟨_, _, rfl, .nil, rfl, rfl, rfl, Nat.le_refl _⟩ ?_ ?_
  · rintro i ti m₁ mine₁ own h gens tk hi ⟨its, n, rfl, hits, e1, e2, e3, hsz⟩ _ hoff hbare F₃ N₃
    have F₄ := Fr.view (m' := fun y => if y = Str.ofString "start" then some (.int ((0 + i : Nat) : Int) ti) else if y = Str.ofString "row" then some (.str (S l) t) else if y = Str.ofString "dress" then some (.str (S d) t') else if y = Str.ofString "spans" then some (.ref ra) else m₁ y) F₃ (fun y => by rw [put_eq e3, put_eq e2, put_eq e1])
    rw [Nat.zero_add] at F₄ hi
    simp only [List.cons_append, List.nil_append] at N₃
    dsimp only [List.map] at hoff
    clear F₂ N₂ F₃ hr e1 e2 e3
    have hsz' : its.size < 2000 := by omega
    have hi2 : (i : Int) < ((S l).length : Int) := by rw [S_len]; omega
    have hi3 : -((S l).length : Int) ≤ (i : Int) := by omega
    k_steps
    · rename (Txt.item _ _ == _) = true => hq
      rename Fr _ _ _ _ => F₅
      rename News _ _ _ _ => N₅
      have hq' := item_open l i hi _ hq
      rename Flow → Shared → Prop => Q'
      have fin : ∀ (e : Nat) (te : Tok) (h₂ : Heap) (g₂ : Array GenState) (tk₂ : Nat), Fr s.heap L h₂ (fun y => if y = Str.ofString "end" then some (.int (e : Nat) te) else if y = Str.ofString "start" then some (.int (i : Nat) ti) else if y = Str.ofString "row" then some (.str (S l) t) else if y = Str.ofString "dress" then some (.str (S d) t') else if y = Str.ofString "spans" then some (.ref ra) else m₁ y) → News s.heap L h₂ ((ra, listOf its n) :: own) → (AllBare s.gens → AllBare g₂) → i + 2 ≤ e → spanEnd l d i l.length (i + 2) = e → Post Q' .next ⟨h₂, g₂, s.drawn, tk₂, s.os⟩ := by
        clear F₅ N₅
        intro e te h₂ g₂ tk₂ F₆ N₆ hb₂ he1 hsp
        k_steps
        rename Fr _ _ _ _ => F₈
        rename News _ _ _ _ => N₈
        exact turn_next [(ra, _)] F₈ N₈ rfl ⟨_, _, rfl, ints_span hits (of_decide_eq_true hq') (by omega) hsp, rfl, rfl, rfl, by simp only [Array.size_push]; omega⟩ hb₂
      generalize Post Q' = Q₂ at fin ⊢
      refine unheld (while_inv (spansW s L ((ra, listOf its n) :: own) (fun e te => fun y => if y = Str.ofString "end" then some (.int (e : Nat) te) else if y = Str.ofString "start" then some (.int (i : Nat) ti) else if y = Str.ofString "row" then some (.str (S l) t) else if y = Str.ofString "dress" then some (.str (S d) t') else if y = Str.ofString "spans" then some (.ref ra) else m₁ y) l d i) l.length ⟨i + 2, _, _, _, _, rfl, F₅, N₅, hbare, by omega, by omega, by omega, rfl⟩ ?_)
      clear F₅ N₅
      rintro k s' ⟨e, te, h₂, g₂, tk₂, rfl, F₅, N₅, hb₂, he1, he2, he3, hsp⟩
      k_steps
      · rename Fr _ _ _ _ => F₆
        rename News _ _ _ _ => N₆
        rename ((e : Nat) : Int) < _ => hlt
        rw [S_len] at hlt
        rw [slice_nat]
        refine use_ct hA (taken_ct w _ d _ _ (by simp only [List.length_drop, List.length_take]; omega) hd') B F₆ X N₆ T rfl rfl (by show dp + 7 < _; omega) (by show un + 20 * 6 + 43 < _; omega) ?_
        rintro v new h₃ tk₃ g₃ ⟨rfl, rfl⟩ F₇ N₇ - hb₃
        clear F₆ N₆
        simp only [List.append_nil] at N₇
        k_steps
        · rename takenL _ _ = true => htk
          rw [spanEnd_stop (by rw [htk]; simp)] at hsp
          exact fin _ _ _ _ _ F₇ N₇ (fun hb => hb₃ (hb₂ hb)) he1 hsp.symm
        · rename takenL _ _ = false => htk
          rename Fr _ _ _ _ => F₈
          rename News _ _ _ _ => N₈
          obtain ⟨k', rfl⟩ : ∃ k', k = k' + 1 := ⟨k - 1, by omega⟩
          rw [spanEnd_go (by omega) htk] at hsp
          exact ⟨k', by omega, e + 2, _, _, _, _, rfl, Fr.again F₈, N₈, fun hb => hb₃ (hb₂ hb), by omega, by omega, by omega, hsp⟩
      · rename ¬ ((e : Nat) : Int) < _ => hlt
        rw [S_len] at hlt
        rw [spanEnd_stop (fun h => absurd h.1 (by omega))] at hsp
        exact fin _ _ _ _ _ F₅ N₅ hb₂ he1 hsp.symm
    · rename (Txt.item _ _ == _) = false => hq
      have hq' := item_open l i hi _ hq
      exact turn_next [(ra, _)] F₄ N₃ rfl ⟨its, n, rfl, by rw [spansTo_succ, if_neg (by simpa using hq')]; exact hits, rfl, rfl, rfl, by omega⟩ hbare
  · rintro m₁ mine₁ h gens tk ⟨its, n, rfl, hits, e1, e2, e3, hsz⟩ _ hbare F₃ N₃
    have F₄ := Fr.view (m' := fun y => if y = Str.ofString "spans" then some (.ref ra) else m₁ y) F₃ (fun y => by rw [put_eq e3])
    clear F₂ N₂ F₃ hr e1 e2 e3
    try dsimp only
    k_steps
    try dsimp only
    exact done_of F₄ N₃ ⟨ra, its, n, hits⟩ (fun p hp => hp) hbare
end Mine

end

section
open PySem PySem.W PyProof.Rows PySem.Calls
namespace Mine
theorem reset_S5 : True := by w_top off; k_with_none; trivial

theorem lines_S5_0 : True := by
  k_with "execs cons" => ((refine' aft_flat ?e ?_; (case e => first | (dsimp only; done) | (dsimp only; exact rfl) | exact rfl); intro _ _ _))
  k_with "execs nil" => (refine wpAny_execs_nil ?_)
  k_with "exec If" => (refine wpAny_If ?_)
  k_with "Post next" => (first | refine aft_end (by with_reducible assumption) ?_ | refine aft_next (by with_reducible assumption) ?_)
  k_with "Post ret" => (refine aft_ret (by with_reducible assumption) ?_)
  k_with "Post brk" => (refine aft_brk (by with_reducible assumption) ?_)
  k_with "Post cont" => (refine aft_cont (by with_reducible assumption) ?_)
  k_with "GenPost ret" => (refine genPost_ret ?_)
  k_with "call" => (((with_reducible show wpAny _ _ (call (Value.type _) _) _ _ _); refine sub_A (by with_reducible assumption) ?_))
  k_with "exec For Name Call cons nil" => (refine held ?_)
  k_with "exec While" => (refine held ?_)
  k_with "pyIter ref" => (refine held ?_)
  trivial
noncomputable def belowSt (l d : List Nat) (p : Nat) : Nat → Nat → Nat
  | 0, s => s
  | f + 1, s => if 1 < s ∧ takenL ((l.take p).drop s) d = false then belowSt l d p f (s - 2) else s
noncomputable def belowAt (l d : List Nat) (p : Nat) : List Nat := l.take (belowSt l d p l.length (p - 2)) ++ [41] ++ (l.take p).drop (belowSt l d p l.length (p - 2)) ++ l.drop (p + 1)
noncomputable def belowIs (l : List Nat) (i : Nat) : Bool := (l.take (i + 3)).drop (i + 1) == [41, 41]
noncomputable def belowTo (l d : List Nat) (n : Nat) : List (List Nat) := ((List.range n).filter (belowIs l)).map fun i => belowAt l d (i + 2)
noncomputable def belowL (l d : List Nat) : List (List Nat) := belowTo l d (l.length - 2)
theorem belowTo_succ (l d : List Nat) (i : Nat) : belowTo l d (i + 1) = if belowIs l i = true then belowTo l d i ++ [belowAt l d (i + 2)] else belowTo l d i := by
  unfold belowTo
  rw [List.range_succ, List.filter_append]
  by_cases h : belowIs l i = true
  · simp [h]
  · simp [h]
theorem belowSt_stop {l d : List Nat} {p k e : Nat} (h : ¬ (1 < e ∧ takenL ((l.take p).drop e) d = false)) : belowSt l d p k e = e := by
  cases k with
  | zero => rfl
  | succ k => rw [belowSt, if_neg h]
theorem belowSt_go {l d : List Nat} {p k e : Nat} (h1 : 1 < e) (h2 : takenL ((l.take p).drop e) d = false) : belowSt l d p (k + 1) e = belowSt l d p k (e - 2) := by
  rw [belowSt, if_pos ⟨h1, h2⟩]
theorem two_close : Str.ofString "))" = S [41, 41] := by decide

inductive belowJ (l d : List Nat) (t t' : Tok) (ra : Addr) (i : Nat) (m : Str → Option Value) (mine : List (Addr × Obj)) : Prop
  | mk (its : Array Value) (n : Nat) (e : mine = [(ra, listOf its n)]) (h : StrsAre its.toList ((belowTo l d i).map S)) (e1 : m (Str.ofString "row") = some (.str (S l) t)) (e2 : m (Str.ofString "dress") = some (.str (S d) t')) (e3 : m (Str.ofString "rows") = some (.ref ra)) (z : its.size ≤ i)
/-- what holds ahead of each turn of the while -/
inductive belowW (s : Shared) (L : Addr) (led : List (Addr × Obj)) (m : Nat → Tok → Str → Option Value) (l d : List Nat) (i k : Nat) (s' : Shared) : Prop
  | mk (e : Nat) (te : Tok) (h₂ : Heap) (g₂ : Array GenState) (tk₂ : Nat) (eq : s' = ⟨h₂, g₂, s.drawn, tk₂, s.os⟩) (F : Fr s.heap L h₂ (m e te)) (N : News s.heap L h₂ led) (b : AllBare s.gens → AllBare g₂) (l1 : e ≤ i) (l2 : e ≤ 2 * k) (st : belowSt l d (i + 2) k e = belowSt l d (i + 2) l.length (i + 2 - 2))

theorem below_ct (w : World) (l d : List Nat) (t t' : Tok) (hl : l.length < 100) (hl2 : 2 ≤ l.length) (hd' : d.length < 100) : Ct 7 w 140 [.str (S l) t, .str (S d) t'] (ListR fun its => StrsAre its.toList ((belowL l d).map S)) := by
  refine ct_enter (binds := [(Str.ofString "row", .str (S l) t), (Str.ofString "dress", .str (S d) t')]) (by k_is) (by k_is) (by rfl) (locs (by rfl)) ?_
  intro dp un gd base fr s h₁ tk mean mg mb A L hA hz hdp hun B X T F N
  have hl' : (S l).length < 100 := by rw [S_len]; exact hl
  have hd'' : (S d).length < 100 := by rw [S_len]; exact hd'
  k_steps
  refine unheld (wpAny_For ?_)
  k_steps
  refine unheld ?_
  rename IsRange _ _ _ _ _ _ _ _ => hr
  rename Fr _ _ _ _ => F₂
  rename News _ _ _ _ => N₂
  rename_i ra _ _ _ _ _ _ _ _ _ _ _ _ _ _
  refine range_loop (a := 2) (b := l.length) hr rfl (by rw [S_len]) (by decide) (by omega) hz (belowJ l d t t' ra) rfl rfl F₂ N₂ ⟨_, _, rfl, .nil, rfl, rfl, rfl, Nat.le_refl _⟩ ?_ ?_
  · rintro i ti m₁ mine₁ own h gens tk hi ⟨its, n, rfl, hits, e1, e2, e3, hsz⟩ _ hoff hbare F₃ N₃
    rw [Nat.add_comm 2 i] at F₃ hi
    have F₄ := Fr.view (m' := fun y => if y = Str.ofString "place" then some (.int ((i + 2 : Nat) : Int) ti) else if y = Str.ofString "row" then some (.str (S l) t) else if y = Str.ofString "dress" then some (.str (S d) t') else if y = Str.ofString "rows" then some (.ref ra) else m₁ y) F₃ (fun y => by rw [put_eq e3, put_eq e2, put_eq e1])
    simp only [List.cons_append, List.nil_append] at N₃
    dsimp only [List.map] at hoff
    clear F₂ N₂ F₃ hr e1 e2 e3
    have hsz' : its.size < 2000 := by omega
    have hsl : Txt.slice (S l) (some (((i + 2 : Nat) : Int) - 1)) (some (((i + 2 : Nat) : Int) + 1)) = S ((l.take (i + 3)).drop (i + 1)) := by
      rw [show ((i + 2 : Nat) : Int) - 1 = ((i + 1 : Nat) : Int) by omega, show ((i + 2 : Nat) : Int) + 1 = ((i + 3 : Nat) : Int) by omega]; exact slice_nat l _ _
    k_steps
    · rename (Txt.slice _ _ _ == _) = true => hq
      rw [hsl, two_close, S_beq] at hq
      rename Fr _ _ _ _ => F₅
      rename News _ _ _ _ => N₅
      rw [show ((i + 2 : Nat) : Int) - 2 = ((i : Nat) : Int) by omega] at F₅
      rename Flow → Shared → Prop => Q'
      have fin : ∀ (e : Nat) (te : Tok) (h₂ : Heap) (g₂ : Array GenState) (tk₂ : Nat), Fr s.heap L h₂ (fun y => if y = Str.ofString "start" then some (.int (e : Nat) te) else if y = Str.ofString "place" then some (.int ((i + 2 : Nat) : Int) ti) else if y = Str.ofString "row" then some (.str (S l) t) else if y = Str.ofString "dress" then some (.str (S d) t') else if y = Str.ofString "rows" then some (.ref ra) else m₁ y) → News s.heap L h₂ ((ra, listOf its n) :: own) → (AllBare s.gens → AllBare g₂) → belowSt l d (i + 2) l.length (i + 2 - 2) = e → Post Q' .next ⟨h₂, g₂, s.drawn, tk₂, s.os⟩ := by
        clear F₅ N₅
        intro e te h₂ g₂ tk₂ F₆ N₆ hb₂ hsp
        k_steps
        rename Fr _ _ _ _ => F₈
        rename News _ _ _ _ => N₈
        have hfin : Txt.slice (S l) none (some (e : Int)) ++ Str.ofString ")" ++ Txt.slice (S l) (some (e : Int)) (some ((i + 2 : Nat) : Int)) ++ Txt.slice (S l) (some (((i + 2 : Nat) : Int) + 1)) none = S (belowAt l d (i + 2)) := by
          rw [show ((i + 2 : Nat) : Int) + 1 = ((i + 3 : Nat) : Int) by omega, slice_to, slice_nat, slice_from, close_is, S_app, S_app, S_app, belowAt, hsp]
        exact turn_next [(ra, _)] F₈ N₈ rfl ⟨_, _, rfl, by rw [belowTo_succ, if_pos (show belowIs l i = true from hq)]; exact strs_push' hits hfin, rfl, rfl, rfl, by simp only [Array.size_push]; omega⟩ hb₂
      generalize Post Q' = Q₂ at fin ⊢
      refine unheld (while_inv (belowW s L ((ra, listOf its n) :: own) (fun e te => fun y => if y = Str.ofString "start" then some (.int (e : Nat) te) else if y = Str.ofString "place" then some (.int ((i + 2 : Nat) : Int) ti) else if y = Str.ofString "row" then some (.str (S l) t) else if y = Str.ofString "dress" then some (.str (S d) t') else if y = Str.ofString "rows" then some (.ref ra) else m₁ y) l d i) l.length ⟨i, _, _, _, _, rfl, F₅, N₅, hbare, by omega, by omega, rfl⟩ ?_)
      clear F₅ N₅
      rintro k s' ⟨e, te, h₂, g₂, tk₂, rfl, F₅, N₅, hb₂, he1, he3, hsp⟩
      k_steps
      · rename Fr _ _ _ _ => F₆
        rename News _ _ _ _ => N₆
        rename _ < ((e : Nat) : Int) => hlt
        rw [slice_nat]
        refine use_ct hA (taken_ct w _ d _ _ (by simp only [List.length_drop, List.length_take]; omega) hd') B F₆ X N₆ T rfl rfl (by show dp + 7 < _; omega) (by show un + 20 * 6 + 43 < _; omega) ?_
        rintro v new h₃ tk₃ g₃ ⟨rfl, rfl⟩ F₇ N₇ - hb₃
        clear F₆ N₆
        simp only [List.append_nil] at N₇
        k_steps
        · rename takenL _ _ = true => htk
          rw [belowSt_stop (by rw [htk]; simp)] at hsp
          exact fin _ _ _ _ _ F₇ N₇ (fun hb => hb₃ (hb₂ hb)) hsp.symm
        · rename takenL _ _ = false => htk
          rename Fr _ _ _ _ => F₈
          rename News _ _ _ _ => N₈
          obtain ⟨k', rfl⟩ : ∃ k', k = k' + 1 := ⟨k - 1, by omega⟩
          rw [belowSt_go (by omega) htk] at hsp
          rw [show ((e : Nat) : Int) - 2 = ((e - 2 : Nat) : Int) by omega] at F₈
          exact ⟨k', by omega, e - 2, _, _, _, _, rfl, Fr.again F₈, N₈, fun hb => hb₃ (hb₂ hb), by omega, by omega, hsp⟩
      · rename ¬ _ < ((e : Nat) : Int) => hlt
        rw [belowSt_stop (fun h => absurd h.1 (by omega))] at hsp
        exact fin _ _ _ _ _ F₅ N₅ hb₂ hsp.symm
    · rename (Txt.slice _ _ _ == _) = false => hq
      rw [hsl, two_close, S_beq] at hq
      rename Fr _ _ _ _ => F₅
      rename News _ _ _ _ => N₅
      exact turn_next [(ra, _)] F₅ N₅ rfl ⟨its, n, rfl, by rw [belowTo_succ, if_neg (by rw [belowIs, hq]; simp)]; exact hits, rfl, rfl, rfl, by omega⟩ hbare
  · rintro m₁ mine₁ h gens tk ⟨its, n, rfl, hits, e1, e2, e3, hsz⟩ _ hbare F₃ N₃
    have F₄ := Fr.view (m' := fun y => if y = Str.ofString "rows" then some (.ref ra) else m₁ y) F₃ (fun y => by rw [put_eq e3])
    clear F₂ N₂ F₃ hr e1 e2 e3
    try dsimp only
    k_steps
    try dsimp only
    exact done_of F₄ N₃ ⟨ra, its, n, hits⟩ (fun p hp => hp) hbare
end Mine

end

section
open PySem PySem.W PyProof.Rows PySem.Calls
namespace Mine

/-- a contract with a word on the heap ahead of the call -/
noncomputable def CtP (d : Nat) (w : World) (f : Addr) (vs : List Value) (P : Heap → Prop) (R : Value → List (Addr × Obj) → Prop) : Prop :=
  ∀ (A : Around) (base : Heap) (fr : List Env) (s : Shared) (Q E : Value → Shared → Prop), P s.heap → GBase w s.heap → Below A base fr s.heap → Room A d →
    (∀ (v : Value) (new : List (Addr × Obj)) (h' : Heap) (tk' : Nat) (g' : Array GenState), R v new → Ext s.heap h' → Own new h' → (∀ q ∈ new, s.heap.get? q.1 = none) → (AllBare s.gens → AllBare g') → Q v ⟨h', g', s.drawn, tk', s.os⟩) →
    wpAny (model PR w) A (call (.ref f) vs) Q E s

theorem ct_enterP {d : Nat} {w : World} {f : Addr} {vs : List Value} {P : Heap → Prop} {R : Value → List (Addr × Obj) → Prop} {name : Str} {params : Arguments} {body : List Stmt} {scope : Scope} {pm cd doc oc : Value} {od : Option Addr} {osl : Array (Option Value)} {binds : List (Str × Value)}
    (ho : (hd.heap_39 w.params).lookup f = some ⟨oc, od, .func (docDef name params body scope pm cd doc), osl⟩) (hcd : codeIn (hd.heap_39 w.params) cd name = true)
    (hbind : bindArgs (docDef name params body scope pm cd doc) ⟨vs, []⟩ = pure binds) (hloc : ∀ x ∈ binds, scope.names.lookup x.1 = some .local)
    (h : ∀ (dp un : Nat) (gd : Option (List Code)) (base : Heap) (fr : List Env) (s : Shared) (h₁ : Heap) (tk : Nat) (mean : ExcName → Option Value) (mg mb : Str → Option Value) (A : Around) (L : Addr), A = Around.deeper ⟨none, dp, some fr, gd, un⟩ (envOf name scope L f cd) → A.handled = none → P s.heap → dp + d < recursionLimit → un + 20 * d + 40 < cLine → Below ⟨none, dp, some fr, gd, un⟩ base fr s.heap →
      (hd.heap_39 w.params).In s.heap → Top hd.view_39 (looseW hd.view_39 []) mean mg mb s.heap → Fr s.heap L h₁ (fun x => binds.reverse.lookup x) → News s.heap L h₁ [] →
      wpAny (model PR w) A (execs body (envOf name scope L f cd)) (DoneF R s) (fun _ _ => False) ⟨h₁, s.gens, s.drawn, tk, s.os⟩)
    (hco : scope.isCoroutine = false := by rfl) (hgen : scope.isGenerator = false := by rfl) (hk : scope.kind = .function := by rfl)
    (hcell : ∀ x ∈ scope.names, x.2 ≠ .cell := by decide) : CtP d w f vs P R := by
  intro A base fr s Q E hP G B Rm hQ
  obtain ⟨mean, mg, mb, T⟩ := G.T
  obtain ⟨hh, dp, fs, gd, un⟩ := A
  obtain ⟨h1, h2, h3⟩ := Rm
  have e1 : hh = none := h1
  have e2 : fs = some fr := B.stack
  subst e1 e2
  refine wpAny_call (call_plain_ret (Nat.lt_of_le_of_lt (Nat.le_add_right _ _) h2) (G.X _ _ ho) rfl T.nolimit (codeRec_of G.X hcd) hbind hloc (fun h₁ F => ?_) hco hgen hk hcell)
  refine wpAny_mono (h dp un gd base fr s h₁ _ mean mg mb _ _ rfl rfl hP h2 h3 B G.X T F News.nil) (fun fl s' hf => ?_) fun _ _ x => x
  obtain ⟨h', tk', g', new, rfl, hR, hext, hown, hnew, hb⟩ := hf
  exact hQ _ new h' tk' g' hR hext hown hnew hb

theorem use_ctP {d : Nat} {w : World} {f : Addr} {vs : List Value} {P : Heap → Prop} {R : Value → List (Addr × Obj) → Prop} {A A' : Around} {base h₀ : Heap} {fr : List Env} {s : Shared} {L a : Addr} {cn : Str} {cs : Scope} {ccd : Value} {m : Str → Option Value} {news : List (Addr × Obj)}
    {mean : ExcName → Option Value} {mg mb : Str → Option Value} {Q E : Value → Shared → Prop}
    (hA : A' = A.deeper (envOf cn cs L a ccd)) (C : CtP d w f vs P R) (hP : P s.heap) (B : Below A base fr h₀) (F : Fr h₀ L s.heap m) (X : (hd.heap_39 w.params).In h₀) (N : News h₀ L s.heap news) (T : Top hd.view_39 (looseW hd.view_39 []) mean mg mb h₀) (hk : cs.kind = .function)
    (hh : A.handled = none) (hdp : A.depth + (d + 1) < recursionLimit) (hun : A.units + 20 * d + 43 < cLine)
    (ret : ∀ (v : Value) (new : List (Addr × Obj)) (h' : Heap) (tk' : Nat) (g' : Array GenState), R v new → Fr h₀ L h' m → News h₀ L h' (news ++ new) → OwnOff new (news.map (·.1)) → (AllBare s.gens → AllBare g') → Q v ⟨h', g', s.drawn, tk', s.os⟩) :
    wpAny (model PR w) A' (call (.ref f) vs) Q E s := by
  subst hA
  refine C (A.deeper (envOf cn cs L a ccd)) base (envOf cn cs L a ccd :: fr) s Q E hP ⟨X.keeps F.keep, _, _, _, T.keeps F.keep⟩ (B.push F hk) ⟨hh, ?_, ?_⟩ fun v new h' tk' g' hR hext hown hnew hb => ?_
  · show A.depth + 1 + d < recursionLimit; omega
  · show A.units + 3 + 20 * d + 40 < cLine; omega
  · exact ret v new h' tk' g' hR (after_F F hext) (news_app (after_N N hext) (after_new F hown hnew)) (new_off N hnew) hb

section
variable {w : World} {A : Around} {h₀ : Heap} {name : Str} {scope : Scope} {L a₀ : Addr} {cd : Value} {s : Shared} {R : Result → Shared → Prop} {E : Value → Shared → Prop}
/-- a loop over a list that stays as it is -/
theorem list_loop {x : Str} {px : Pos} {body : List Stmt} {l : Addr} {items : Array Value} {m : Str → Option Value} {mine : List (Addr × Obj)}
    (hl : s.heap.IsList l items) (hlL : l ≠ L) (hlm : l ∉ mine.map (·.1)) (hh : A.handled = none)
    (J : Nat → (Str → Option Value) → List (Addr × Obj) → Prop) (hk : scope.kind = .function)
    (hx : (envOf name scope L a₀ cd).kindOf x = some .local)
    (F : Fr h₀ L s.heap m) (N : News h₀ L s.heap mine) (hj : J 0 m mine)
    (turn : ∀ i v m₁ mine₁ own h gens tk, items[i]? = some v → J i m₁ mine₁ → mine₁.map (·.1) = mine.map (·.1) → OwnOff own (mine.map (·.1)) → (AllBare s.gens → AllBare gens) →
      Fr h₀ L h (fun y => if y = x then some v else m₁ y) → News h₀ L h (mine₁ ++ own) →
      wpAny (model PR w) A (execs body (envOf name scope L a₀ cd)) (TurnPost R (TurnEnd h₀ L own (mine.map (·.1)) (J (i + 1)) s)) (fun _ _ => False) ⟨h, gens, s.drawn, tk, s.os⟩)
    (done : ∀ m₁ mine₁ h gens tk, J items.size m₁ mine₁ → mine₁.map (·.1) = mine.map (·.1) → (AllBare s.gens → AllBare gens) → Fr h₀ L h m₁ → News h₀ L h mine₁ → R (.ok .next) ⟨h, gens, s.drawn, tk, s.os⟩) :
    wpAny (model PR w) A (pyIter (.ref l)) (fun it s₂ => codeAny (model PR w) A (.forLoop (.Name x px) it body [] (envOf name scope L a₀ cd)) R s₂) E s := by
  refine wpAny_pyIter_list hl ?_
  obtain ⟨o1, o2, o3⟩ := next_off F N
  obtain ⟨ol, hol, _⟩ := id hl
  have hne : l ≠ s.heap.objs.size := Nat.ne_of_lt (Heap.lt_size hol)
  have W := Walks.list (prog := PR) (w := w) hh s.heap.objs.size l hne items
  refine loop_walk (s := ⟨_, s.gens, s.drawn, s.toks, s.os⟩) W J hk hx (by simp only [List.mem_cons, List.not_mem_nil, or_false]; exact fun h => h.elim o1 (fun e => hlL e.symm)) (by simpa using o2) (fun c hc => by simp only [List.mem_cons, List.not_mem_nil, or_false]; exact fun h => h.elim (o3 c hc) (fun e => hlm (e ▸ hc))) ?_ (F.push _) (fun p hp => ⟨Heap.get?_push_of_some _ (N p hp).1, (N p hp).2⟩) hj ?_ done
  · exact ⟨⟨_, Heap.get?_push_size _ rfl, rfl, rfl⟩, hl.at fun o e => Heap.get?_push_of_some _ e⟩
  · exact fun i v m₁ mine₁ own h gens tk _ hv hJ adr off hbare F₁ N₁ => turn i v m₁ mine₁ own h gens tk hv hJ adr off hbare F₁ N₁
end
theorem ints_get {vs : List Value} {ns : List Int} (h : IntsAre vs ns) {i : Nat} {v : Value} (e : vs[i]? = some v) : ∃ n t, ns[i]? = some n ∧ v = .int n t := by
  induction h generalizing i with
  | nil => simp at e
  | cons n t _ ih =>
    cases i with
    | zero => simp at e; exact ⟨n, t, by simp, e.symm⟩
    | succ i => simp at e; exact ih e
theorem strs_get {vs : List Value} {ns : List Str} (h : StrsAre vs ns) {i : Nat} {v : Value} (e : vs[i]? = some v) : ∃ n t, ns[i]? = some n ∧ v = .str n t := by
  induction h generalizing i with
  | nil => simp at e
  | cons n t _ ih =>
    cases i with
    | zero => simp at e; exact ⟨n, t, by simp, e.symm⟩
    | succ i => simp at e; exact ih e
end Mine

end

section
open PySem PySem.W PyProof.Rows PySem.Calls
namespace Mine
theorem reset_S6 : True := by w_top off; k_with_none; trivial

theorem lines_S6_0 : True := by
  k_with "execs cons" => ((refine' aft_flat ?e ?_; (case e => first | (dsimp only; done) | (dsimp only; exact rfl) | exact rfl); intro _ _ _))
  k_with "execs nil" => (refine wpAny_execs_nil ?_)
  k_with "exec If" => (refine wpAny_If ?_)
  k_with "Post next" => (first | refine aft_end (by with_reducible assumption) ?_ | refine aft_next (by with_reducible assumption) ?_)
  k_with "Post ret" => (refine aft_ret (by with_reducible assumption) ?_)
  k_with "Post brk" => (refine aft_brk (by with_reducible assumption) ?_)
  k_with "Post cont" => (refine aft_cont (by with_reducible assumption) ?_)
  k_with "GenPost ret" => (refine genPost_ret ?_)
  k_with "call" => (((with_reducible show wpAny _ _ (call (Value.type _) _) _ _ _); refine sub_A (by with_reducible assumption) ?_))
  k_with "exec For Name Name cons nil" => (refine held ?_)
  k_with "pyIter ref" => (refine held ?_)
  trivial
noncomputable def rowGo : List Int → List Nat → List Nat
  | [], r => r
  | n :: ns, r => if r.count 40 = r.count 41 ∨ (r.count 40 < 4 ∧ n % 2 = 0) then rowGo ns (r ++ [40]) else rowGo ns (r ++ [41])
noncomputable def rowL (ns : List Int) : List Nat := rowGo ns [40] ++ [41]

inductive rowJ (ns : List Int) (i : Nat) (m : Str → Option Value) (mine : List (Addr × Obj)) : Prop
  | mk (r : List Nat) (t : Tok) (e : mine = []) (e1 : m (Str.ofString "row") = some (.str (S r) t)) (g : rowGo (ns.drop i) r = rowGo ns [40]) (l : r.length = i + 1)

theorem cnt_count (c : Nat) : ∀ l : List Nat, cnt c l = (l.count c : Int)
  | [] => rfl
  | a :: r => by
    have ih := cnt_count c r
    show (if Spec.same (PyData.str ⟨#[a]⟩) (.str ⟨#[c]⟩) then 1 else 0) + cnt c r = _
    rw [ih, List.count_cons]
    by_cases h : a = c
    · subst h
      rw [if_pos (by simp [Spec.same]), if_pos (by simp)]; omega
    · have h2 : ¬ Spec.same (PyData.str ⟨#[a]⟩) (.str ⟨#[c]⟩) = true := by
        simp [Spec.same, h]
      rw [if_neg h2, if_neg (by simpa using h)]; omega
theorem count_S (r : List Nat) (c : Nat) : Txt.count (S r) (S [c]) = (r.count c : Int) := by
  rw [show S [c] = ⟨#[c]⟩ from rfl, count_cnt, S_cps, cnt_count]
theorem rowGo_cons (n : Int) (ns : List Int) (r : List Nat) : rowGo (n :: ns) r = if r.count 40 = r.count 41 ∨ (r.count 40 < 4 ∧ n % 2 = 0) then rowGo ns (r ++ [40]) else rowGo ns (r ++ [41]) := rfl
theorem row_ct (w : World) (a : Addr) (vs : List Value) (ns : List Int) (hi : IntsAre vs ns) (hn : ns.length < 100) : CtP 2 w 98 [.ref a] (fun h => h.IsList a vs.toArray) fun v new => (∃ t, v = .str (S (rowL ns)) t) ∧ new = [] := by
  refine ct_enterP (binds := [(Str.ofString "numbers", .ref a)]) (by k_is) (by k_is) (by rfl) (locs (by rfl)) ?_
  intro dp un gd base fr s h₁ tk mean mg mb A L hA hz hP hdp hun B X T F N
  have hPs : a < L := let ⟨_, ho, _⟩ := hP; Nat.lt_of_lt_of_le (Heap.lt_size ho) F.above
  k_steps
  refine unheld (wpAny_For ?_)
  k_steps
  refine unheld ?_
  rename Fr _ _ _ _ => F₂
  rename News _ _ _ _ => N₂
  refine list_loop (items := vs.toArray) (hP.at fun o e => F₂.keep _ o e) (Nat.ne_of_lt hPs) (by simp) hz (rowJ ns) rfl rfl F₂ N₂ ⟨[40], _, rfl, rfl, rfl, rfl⟩ ?_ ?_
  · rintro i v m₁ mine₁ own h gens tk hv ⟨r, t, rfl, e1, hgo, hrl⟩ _ hoff hbare F₃ N₃
    obtain ⟨n, tn, hn', rfl⟩ := ints_get hi (by simpa using hv)
    have hin : i < ns.length := by
      rcases Nat.lt_or_ge i ns.length with h | h
      · exact h
      · rw [List.getElem?_eq_none h] at hn'; cases hn'
    have F₄ := Fr.view (m' := fun y => if y = Str.ofString "number" then some (.int n tn) else if y = Str.ofString "row" then some (.str (S r) t) else m₁ y) F₃ (fun y => by rw [put_eq e1])
    simp only [List.nil_append] at N₃
    clear F₂ N₂ F₃ e1
    have hr' : (S r).length < 200 := by rw [S_len]; omega
    have hdrop : ns.drop i = n :: ns.drop (i + 1) := by
      rw [List.drop_eq_getElem_cons hin]
      rw [List.getElem?_eq_getElem hin] at hn'
      rw [Option.some.inj hn']
    rw [hdrop, rowGo_cons] at hgo
    have c40 : Txt.count (S r) (Str.ofString "(") = (r.count 40 : Int) := by rw [open_is]; exact count_S r 40
    have c41 : Txt.count (S r) (Str.ofString ")") = (r.count 41 : Int) := by rw [close_is]; exact count_S r 41
    have hm : n.fmod 2 = n % 2 := Int.fmod_eq_emod_of_nonneg n (by decide)
    have fin40 : ∀ {h' : Heap} {t' : Tok} {tk' : Nat}, (r.count 40 = r.count 41 ∨ (r.count 40 < 4 ∧ n % 2 = 0)) → Fr s.heap L h' (fun y => if y = Str.ofString "row" then some (.str (S r ++ Str.ofString "(") t') else if y = Str.ofString "number" then some (.int n tn) else if y = Str.ofString "row" then some (.str (S r) t) else m₁ y) → News s.heap L h' own →
        TurnEnd s.heap L own [] (rowJ ns (i + 1)) s ⟨h', gens, s.drawn, tk', s.os⟩ := fun hc F N => by
      rw [if_pos hc] at hgo
      rw [open_is, S_app] at F
      exact turn_next [] F N rfl ⟨_, _, rfl, rfl, hgo, by simp [hrl]⟩ hbare
    have fin41 : ∀ {h' : Heap} {t' : Tok} {tk' : Nat}, ¬ (r.count 40 = r.count 41 ∨ (r.count 40 < 4 ∧ n % 2 = 0)) → Fr s.heap L h' (fun y => if y = Str.ofString "row" then some (.str (S r ++ Str.ofString ")") t') else if y = Str.ofString "number" then some (.int n tn) else if y = Str.ofString "row" then some (.str (S r) t) else m₁ y) → News s.heap L h' own →
        TurnEnd s.heap L own [] (rowJ ns (i + 1)) s ⟨h', gens, s.drawn, tk', s.os⟩ := fun hc F N => by
      rw [if_neg hc] at hgo
      rw [close_is, S_app] at F
      exact turn_next [] F N rfl ⟨_, _, rfl, rfl, hgo, by simp [hrl]⟩ hbare
    k_steps
    · rename _ = Txt.count _ _ => q1
      exact fin40 (.inl (by omega)) (by assumption) (by assumption)
    · rename _ ≠ Txt.count _ _ => q1
      rename Txt.count _ _ < _ => q2
      rename n.fmod 2 = 0 => q3
      exact fin40 (.inr ⟨by omega, by omega⟩) (by assumption) (by assumption)
    · rename _ ≠ Txt.count _ _ => q1
      rename n.fmod 2 ≠ 0 => q3
      exact fin41 (by omega) (by assumption) (by assumption)
    · rename _ ≠ Txt.count _ _ => q1
      rename ¬ Txt.count _ _ < _ => q2
      exact fin41 (by omega) (by assumption) (by assumption)
  · rintro m₁ mine₁ h gens tk ⟨r, t, rfl, e1, hgo, hrl⟩ _ hbare F₃ N₃
    have F₄ := Fr.view (m' := fun y => if y = Str.ofString "row" then some (.str (S r) t) else m₁ y) F₃ (fun y => by rw [put_eq e1])
    have hlen : vs.toArray.size = ns.length := by simp [hi.length]
    rw [hlen] at hgo hrl
    clear F₂ N₂ F₃ e1
    have hr' : (S r).length < 200 := by rw [S_len]; omega
    try dsimp only
    k_steps
    try dsimp only
    have e : S r ++ Str.ofString ")" = S (rowL ns) := by
      rw [close_is, S_app, rowL, ← hgo, List.drop_of_length_le (Nat.le_refl _), rowGo]
    rw [e]
    exact done_val F₄ ⟨⟨_, rfl⟩, rfl⟩ hbare
end Mine

end

section
open PySem PySem.W PyProof.Rows PySem.Calls
namespace Mine
theorem reset_S7 : True := by w_top off; k_with_none; trivial

theorem lines_S7_0 : True := by
  k_with "execs cons" => ((refine' aft_flat ?e ?_; (case e => first | (dsimp only; done) | (dsimp only; exact rfl) | exact rfl); intro _ _ _))
  k_with "execs nil" => (refine wpAny_execs_nil ?_)
  k_with "exec If" => (refine wpAny_If ?_)
  k_with "Post next" => (first | refine aft_end (by with_reducible assumption) ?_ | refine aft_next (by with_reducible assumption) ?_)
  k_with "Post ret" => (refine aft_ret (by with_reducible assumption) ?_)
  k_with "Post brk" => (refine aft_brk (by with_reducible assumption) ?_)
  k_with "Post cont" => (refine aft_cont (by with_reducible assumption) ?_)
  k_with "GenPost ret" => (refine genPost_ret ?_)
  k_with "call" => (((with_reducible show wpAny _ _ (call (Value.type _) _) _ _ _); refine sub_A (by with_reducible assumption) ?_))
  k_with "call ref" => (refine sub_A (by with_reducible assumption) ?_)
  trivial
noncomputable abbrev recEs (P : Params) (u r : Addr) (dl rt : Value) (t1 t2 t3 t4 : Tok) : List DictEntry :=
  [⟨PyData.keyHash P (Str.ofString "useragents"), .str (Str.ofString "useragents") t1, .ref u⟩, ⟨PyData.keyHash P (Str.ofString "rulelines"), .str (Str.ofString "rulelines") t2, .ref r⟩,
   ⟨PyData.keyHash P (Str.ofString "delay"), .str (Str.ofString "delay") t3, dl⟩, ⟨PyData.keyHash P (Str.ofString "req_rate"), .str (Str.ofString "req_rate") t4, rt⟩]
/-- the objects of a record -/
inductive RecObjs (w : World) (x : Addr) (us rs : List Str) (dl rt : Value) (new : List (Addr × Obj)) : Prop
  | mk (dx u r : Addr) (t1 t2 t3 t4 : Tok) (its ys : List Value) (n1 n2 : Nat) (e : new = [(u, listOf (List.toArray its) n1), (r, listOf (List.toArray ys) n2), (x, instObj 59 dx), (dx, dictOf (recEs w.params u r dl rt t1 t2 t3 t4) 4)]) (h1 : StrsAre its us) (h2 : StrsAre ys rs)

theorem done_rec {w : World} {us rs : List Str} {dl rt : Value} {s : Shared} {h' : Heap} {tk' : Nat} {g' : Array GenState} {L : Addr} {m : Str → Option Value} {r u x d : Addr} {t1 t2 t3 t4 : Tok} {its ys : List Value} {n1 n2 : Nat} {p3 p4 : Addr × Obj} (F : Fr s.heap L h' m)
    (N : News s.heap L h' [(r, listOf (List.toArray ys) n2), (u, listOf (List.toArray its) n1), p3, p4, (x, instObj 59 d), (d, dictOf (recEs w.params u r dl rt t1 t2 t3 t4) 4)]) (hi : StrsAre its us) (hy : StrsAre ys rs) (hb : AllBare s.gens → AllBare g') :
    DoneF (fun v new => ∃ x, v = .ref x ∧ RecObjs w x us rs dl rt new) s (.ret (.ref x)) ⟨h', g', s.drawn, tk', s.os⟩ := by
  refine done_of (new := [(u, listOf (List.toArray its) n1), (r, listOf (List.toArray ys) n2), (x, instObj 59 d), (d, dictOf (recEs w.params u r dl rt t1 t2 t3 t4) 4)]) F N ⟨_, rfl, d, u, r, t1, t2, t3, t4, its, ys, n1, n2, rfl, hi, hy⟩ ?_ hb
  intro p hp
  simp only [List.mem_cons, List.not_mem_nil, or_false] at hp ⊢
  rcases hp with rfl | rfl | rfl | rfl <;> simp

local macro_rules | `(tactic| k_room) => `(tactic| ktr_room)
theorem record_ct (w : World) (a : Addr) (l : List Nat) (t : Tok) (vs : List Value) (us : List Str) (dl rt : Value) (hl : l.length < 100) (hv : vs.length < 100) (hu : StrsAre vs us) : CtP 3 w 119 [.ref a, .str (S l) t, dl, rt] (fun h => h.IsList a vs.toArray) fun v new => ∃ x, v = .ref x ∧ RecObjs w x us (signs (S l)) dl rt new := by
  refine ct_enterP (binds := [(Str.ofString "agents", .ref a), (Str.ofString "row", .str (S l) t), (Str.ofString "delay", dl), (Str.ofString "rate", rt)]) (by k_is) (by k_is) (by rfl) (locs (by rfl)) ?_
  intro dp un gd base fr s h₁ tk mean mg mb A L hA hz hP hdp hun B X T F N
  have hl' : (S l).length < 100 := by rw [S_len]; exact hl
  k_steps
  rename News _ _ _ _ => NN
  rename Fr _ _ _ _ => FF
  rename CarriedAll _ _ => hc
  try dsimp only
  exact done_rec FF NN hu (StrsAre.of_carried hc) id

end Mine

end

section
open PySem PySem.W PyProof.Rows PySem.Calls
namespace Mine
theorem slot_md_get : Slot "method_descriptor" "__get__" "method_descriptor.__get__" :=
  .of (owner := "method_descriptor") (n := "__get__") (by rw [typeLookup_type, builtinLookup_eq_fast]; kernel_rfl) (by decide +kernel) (by decide +kernel) (by decide +kernel)
    (by first | exact .inl (by decide +kernel) | exact .inr (by decide +kernel)) (by rw [isSubtype_type]; kernel_rfl)
theorem md_no_set : typeLookup (.type "method_descriptor") "__set__" = pure none := by rw [typeLookup_type, builtinLookup_eq_fast]; kernel_rfl
theorem md_no_del : typeLookup (.type "method_descriptor") "__delete__" = pure none := by rw [typeLookup_type, builtinLookup_eq_fast]; kernel_rfl
theorem entry_md_get : entryFor table "method_descriptor.__get__" = some Builtin.«method_descriptor.__get__» := entryFor_of_tree (by kernel_rfl)
theorem args_md_get (a b c : Value) : argsOk "method_descriptor.__get__" ⟨[a, b, c], []⟩ := by unfold argsOk; kernel_rfl
theorem owner_set_contains : (".".intercalate ("set.__contains__".cutAt '.').dropLast) = "set" := by
  have e0 : "set.__contains__".cutAt '.' = ["set", "__contains__"] := by first | rfl | decide +kernel
  rw [e0]; decide +kernel
theorem sub_set_contains_owner : isSubtype (.type "set") (.type (".".intercalate ("set.__contains__".cutAt '.').dropLast)) = pure true := by
  rw [owner_set_contains, isSubtype_type]; kernel_rfl
theorem not_told : Manifest.toldItsClass.contains "set.__contains__" = false := by decide +kernel

noncomputable abbrev boundO (a : Addr) : Obj := { cls := .type "builtin_function_or_method", data := .fields #[.builtin "set.__contains__", .ref a] }
section
variable {prog : Program} {w : World} {A : Around} {E : Value → Shared → Prop} {h : Heap} {g : Array GenState} {d : Drawn} {t : Nat} {os : OsState} {a : Addr} {o : Obj}
theorem bnd_get {R : Result → Shared → Prop} (hx : h.get? a = some o) (hc : o.cls = .type "set") (hq : R (.ok (.ret (.ref h.objs.size))) ⟨h.push (boundO a), g, d, t, os⟩) :
    codeAny (model prog w) A (.call (.builtin "method_descriptor.__get__") ⟨[.builtin "set.__contains__", .ref a, .type "set"], []⟩) R ⟨h, g, d, t, os⟩ := by
  have hT : (⟨h, g, d, t, os⟩ : Shared).TypeIs (.ref a) "set" := ⟨_, hx, hc⟩
  have hT5 : (⟨h, g, d, t, os⟩ : Shared).TypeIs (.builtin "set.__contains__") "method_descriptor" := F.type_set_contains
  have f8 := sub_set_contains_owner
  have f9 := not_told
  refine codeAny_call_builtin slot_md_get.plain entry_md_get (slot_md_get.check _ _ _ _ _ _ _ _ hT5 (args_md_get _ _ _) ?_)
  repeat (any_goals (first | assumption | wp_step))

noncomputable abbrev setO (es : Array (Int × Value)) (ep : Nat) (tb : SetTable) : Obj := { cls := .type "set", dict := none, data := .set es ep tb, slots := #[] }
theorem bnd_entry {tk : Tok} {Q : Fin → Shared → Prop} {es : Array (Int × Value)} {ep : Nat} {tb : SetTable} (hx : h.get? a = some (setO es ep tb)) (hq : Q (.done (.ret (.ref h.objs.size))) ⟨h.push (boundO a), g, d, t, os⟩) :
    wpAny (model prog w) A (Builtin.«object.__getattribute__» ⟨[.ref a, .str "__contains__" tk], []⟩) Q E ⟨h, g, d, t, os⟩ := by
  have hT : (⟨h, g, d, t, os⟩ : Shared).TypeIs (.ref a) "set" := ⟨_, hx, rfl⟩
  have hT5 : (⟨h, g, d, t, os⟩ : Shared).TypeIs (.builtin "set.__contains__") "method_descriptor" := F.type_set_contains
  have f4 := F.slot_set_contains.lookup
  have f5 := F.type_set_contains
  have f6 := slot_md_get.lookup
  have f7 := md_no_set
  have f8 := md_no_del
  repeat (any_goals (first | assumption | wp_step))
  refine bnd_get hx rfl ?_
  repeat (any_goals (first | assumption | wp_step))

theorem bnd_attr {Q : Value → Shared → Prop} {es : Array (Int × Value)} {ep : Nat} {tb : SetTable} (hx : h.get? a = some (setO es ep tb)) (hq : Q (.ref h.objs.size) ⟨h.push (boundO a), g, d, t + 1, os⟩) :
    wpAny (model prog w) A (getAttr (.ref a) "__contains__" true) Q E ⟨h, g, d, t, os⟩ := by
  have hT : (⟨h, g, d, t + 1, os⟩ : Shared).TypeIs (.ref a) "set" := ⟨_, hx, rfl⟩
  have f2 := F.slot_set_getattribute.lookup
  have f3 := F.slot_set_getattribute.bind (.ref a)
  unfold getAttr
  refine wpAny_bind (wpAny_mkText ?_)
  repeat (any_goals (first | assumption | wp_step))
  refine codeAny_call_builtin F.slot_set_getattribute.plain F.entry_set_ga (F.slot_set_getattribute.check _ _ _ _ _ _ _ _ hT (F.args_set_getattribute_2 _ _) (bnd_entry hx ?_))
  repeat (any_goals (first | assumption | wp_step))

end
theorem sig_set_contains : Manifest.signature? "set.__contains__" = some ⟨.oneArg, "set.__contains__", "__contains__", .self, [⟨"object", .posOnly, true⟩]⟩ := by
  rw [signature?_of (id := "set.__contains__") (n := ['_', '_', 's', 'n', 'i', 'a', 't', 'n', 'o', 'c', '_', '_']) (o := ['t', 'e', 's']) (by kernel_rfl) F.owner_set]; kernel_rfl
theorem kind_set_contains : builtinKind "set.__contains__" = some .method := by kernel_rfl
theorem sub_set_module : isSubtype (.type "set") (.type "module") = pure false := by rw [isSubtype_type]; kernel_rfl
theorem sub_set_type : isSubtype (.type "set") (.type "type") = pure false := by rw [isSubtype_type]; kernel_rfl
theorem bnd_args (a b : Value) : Bind.checkArgs "set.__contains__" ⟨.oneArg, s!"{Bind.lastOf "set"}.{Bind.lastOf "set.__contains__"}", "__contains__", .self, [⟨"object", .posOnly, true⟩]⟩ ⟨[a, b], []⟩ = pure () := by kernel_rfl
theorem no_var : Manifest.varargsMethods.contains "set.__contains__" = false := by decide +kernel
section
variable {prog : Program} {A : Around} {E : Value → Shared → Prop} {a : Addr}
theorem bnd_check {M : Model} {s : Shared} {x : Value} {Q : Unit → Shared → Prop} {es : Array (Int × Value)} {ep : Nat} {tb : SetTable} (hx : s.heap.get? a = some (setO es ep tb)) (hq : Q () s) : wpAny M A (checkBoundCall "set.__contains__" ⟨[.ref a, x], []⟩) Q E s := by
  have hT : s.TypeIs (.ref a) "set" := ⟨_, hx, rfl⟩
  unfold checkBoundCall
  simp only [sig_set_contains, kind_set_contains]
  refine wpAny_ite_split (fun hab => absurd hab (by decide)) (fun _ => ?_)
  refine wpAny_bind (wpAny_isInstance hT sub_set_module ?_)
  refine wpAny_ite_split (fun hab => absurd hab (by rw [no_var]; decide)) (fun _ => ?_)
  have f1 := sub_set_type
  have f2 := bnd_args (.ref a) x
  obtain ⟨hp, g, d, tk, os⟩ := s
  repeat (any_goals (first | assumption | with_reducible refine AutoSeq1.wpAny_loadPart' hx ?_ | wp_step))
theorem SetOf_setO {h : Heap} {w : World} {S : Str → Bool} {n : Nat} (hS : h.SetOf (strKind prog w) a S n) : ∃ es ep tb, h.get? a = some (setO es ep tb) := by
  obtain ⟨⟨c, d, dt, sl⟩, es, ep, t, ho, ⟨e1, e2, e3⟩, hd, _⟩ := hS
  dsimp only at e1 e2 e3 hd
  subst e1 e2 e3 hd
  exact ⟨es, ep, t, ho⟩
theorem bnd_call {w : World} {s : Shared} {b : Addr} {S : Str → Bool} {n : Nat} {x : Str} {tk : Tok} {Q : Value → Shared → Prop} (hb : s.heap.get? b = some (boundO a)) (hS : s.heap.SetOf (strKind prog w) a S n)
    (hq : Q (.bool (S x)) { s with toks := s.toks + 1 }) : wpAny (model prog w) A (call (.ref b) [.str x tk]) Q E s := by
  refine wpAny_call (codeAny_of_tree ?_)
  show wpAny _ _ (callAny (.ref b) _) _ _ _
  obtain ⟨es, ep, tb, hx⟩ := SetOf_setO hS
  unfold callAny
  refine wpAny_bind (wpAny_load hb ?_)
  dsimp only
  refine wpAny_ite_split (fun _ => ?_) (fun hab => absurd (by decide) hab)
  show wpAny _ _ (if (Value.type "builtin_function_or_method" != Value.type "method") = true then _ else _) _ _ _
  refine wpAny_ite_split (fun _ => ?_) (fun hab => absurd (by decide) hab)
  refine wpAny_bind (bnd_check hx ?_)
  refine wpAny_pure ⟨plainId_quiet F.slot_set_contains.plain _, codeAny_builtin entry_set_contains ?_⟩
  rw [Around.under_plainId F.slot_set_contains.plain _]
  unfold Builtin.«frozenset.__contains__» Builtin.Frozenset.oneOther
  simp only [List.isEmpty_nil, bind_assoc]
  unfold Builtin.Frozenset.addrOf Builtin.Frozenset.withSetAsKey setContains
  refine wpAny_bind (wpAny_pure ?_)
  try dsimp only
  refine wpAny_bind (wpAny_pure ?_)
  try dsimp only
  refine wpAny_bind (wpAny_tryCatch ?_)
  refine wpAny_holding ?_
  have hkey : (strKind prog w).is x (.str x tk) = true := by show Value.isStrOf x (.str x tk) = true; simp [Value.isStrOf]
  refine wpAny_bind ((strKind prog w).pyHash hkey ?_)
  refine wpAny_bind (wpAny_setFind_of (s := { s with toks := s.toks + 1 }) hkey rfl hS fun r hr => ?_)
  refine wpAny_pure ?_
  show wpAny _ _ (ret (Value.bool r.isSome)) _ _ _
  rw [hr]
  exact wpAny_pure hq
end
end Mine

end

section
open PySem PySem.W PyProof.Rows PySem.Calls
namespace Mine
/-- the set holds just the strings of `us` -/
noncomputable def StrSet (prog : Program) (w : World) (h : Heap) (a : Addr) (us : List Str) : Prop := ∃ n, n ≤ us.length ∧ h.SetOf (strKind prog w) a (fun k => us.contains k) n
theorem strKey (prog : Program) (w : World) (x : Str) (tk : Tok) : (strKind prog w).is x (.str x tk) = true := by show Value.isStrOf x (.str x tk) = true; simp [Value.isStrOf]
section
variable {prog : Program} {w : World} {A : Around} {R : Result → Shared → Prop} {I : Addr} {fp wr : List Addr} {G : Array GenState → Array GenState → Prop} {n : Nat} {P : Nat → Value → Prop} {St : Nat → Shared → Prop}
theorem StrSet.at {h h' : Heap} {S : Addr} {us : List Str} (x : StrSet prog w h S us) (e : ∀ o, h.get? S = some o → h'.get? S = some o) : StrSet prog w h' S us := by
  obtain ⟨m, hm, o, es, ep, t, ho, rest⟩ := x
  exact ⟨m, hm, o, es, ep, t, e _ ho, rest⟩
theorem set_loop_str (W : WalksS prog w A.in1 I fp wr G n P St) (S : Addr) (hSf : S ∉ fp)
    (us : List Str) (hn : us.length = n) (hval : ∀ i v, P i v → ∃ x t, us[i]? = some x ∧ v = .str x t) (hb : n + 1 < scanBound) :
    ∀ (k i : Nat) (s : Shared), n - i = k → i ≤ n → St i s → StrSet prog w s.heap S (us.take i) →
      (∀ s', Moved (S :: wr) G s s' → StrSet prog w s'.heap S us → R (.ok (.ret .none)) s') →
      codeAny (model prog w) A (.builtin "set.update.loop" ⟨[.ref S, .ref I], []⟩) R s := by
  have hSw : S ∉ wr := fun h => hSf (W.sub _ h)
  have hsub : ∀ b ∈ wr, b ∈ S :: wr := fun b hb => List.mem_cons_of_mem _ hb
  intro k
  induction k with
  | zero =>
    intro i s hk hi hst hS hR
    have hin : i = n := by omega
    subst hin
    refine codeAny_builtin F.entry_set_update_loop ?_
    rw [Around.under_plainId F.plain_set_update_loop _]
    show wpAny _ A.in1 (pyNext (.ref I) >>= _) _ _ s
    refine wpAny_bind (W.done s _ _ hst fun s' hm => ?_)
    show wpAny _ A.in1 (ret Value.none) _ _ s'
    refine wpAny_pure (hR s' (hm.mono hsub) ?_)
    rw [List.take_of_length_le (by omega)] at hS
    exact hS.at fun o e => hm.heap S _ hSw e
  | succ k ih =>
    intro i s hk hi hst hS hR
    have hlt : i < n := by omega
    refine codeAny_builtin F.entry_set_update_loop ?_
    rw [Around.under_plainId F.plain_set_update_loop _]
    show wpAny _ A.in1 (pyNext (.ref I) >>= _) _ _ s
    refine wpAny_bind (W.item i s _ _ hlt hst fun v s' hP hst' hm => ?_)
    obtain ⟨x, t, hx, rfl⟩ := hval i v hP
    obtain ⟨m, hm1, hS'⟩ := hS.at (h' := s'.heap) fun o e => hm.heap S _ hSw e
    have hm2 : m ≤ i := by rw [List.length_take] at hm1; omega
    show wpAny _ A.in1 (holding [Value.str x t] (setAdd S (.str x t)) >>= _) _ _ s'
    refine wpAny_bind (wpAny_holding ?_)
    unfold setAdd
    refine wpAny_holding ?_
    refine wpAny_bind ((strKind prog w).pyHash (k := x) (strKey _ _ _ _) ?_)
    refine wpAny_setAddHashed_of (knd := strKind prog w) (s := { s' with toks := s'.toks + 1 }) (strKey _ _ _ _) rfl hS' (by omega) fun h' hsb hS2 => ?_
    have hSi : StrSet prog w h' S (us.take (i + 1)) := by
      refine ⟨if (us.take i).contains x then m else m + 1, ?_, SetOf_congr hS2 (fun k' => ?_) rfl⟩
      · rw [List.length_take]; split <;> omega
      · rw [List.take_add_one, hx]
        simp [List.contains_eq_mem, eq_comm]
    refine wpAny_pure ⟨plainId_quiet F.plain_set_update_loop _, ih (i + 1) _ (by omega) hlt (W.frame _ s' _ _ hst' (Nat.le_succ _) fun b hb o e => ?_) hSi fun s'' hm'' hS'' => ?_⟩
    · rw [hsb.2 b (fun h : b = S => hSf (by rw [← h]; exact hb))]; exact e
    · refine hR s'' (Moved.trans W.gtrans ((hm.mono hsub).then_heap (Nat.le_succ _) fun b o hb e => ?_) hm'') hS''
      rw [hsb.2 b (fun h : b = S => hb (by rw [h]; exact List.mem_cons_self))]; exact e
end

theorem strs_length {vs : List Value} {us : List Str} (h : StrsAre vs us) : vs.length = us.length := by
  induction h with
  | nil => rfl
  | cons _ _ _ ih => simp [ih]

section
variable {prog : Program} {w : World} {A : Around} {E : Value → Shared → Prop} {s : Shared}
theorem call_set_strs {l : Addr} {items : Array Value} {us : List Str} {Q : Value → Shared → Prop}
    (hh : A.handled = none) (hl : s.heap.IsList l items) (hi : StrsAre items.toList us) (hb : us.length + 1 < scanBound)
    (h : ∀ (h' : Heap) (tk : Nat), StrSet prog w h' s.heap.objs.size us →
      (∀ b o, b < s.heap.objs.size → s.heap.get? b = some o → h'.get? b = some o) → Q (.ref s.heap.objs.size) { s with heap := h', toks := tk }) :
    wpAny (model prog w) A (call (.type "set") [.ref l]) Q E s := by
  obtain ⟨c, tl, hmro⟩ := F.called_set.mro
  have hmade := F.called_set.made
  have hsub := F.called_set.sub
  have hsz : us.length = items.size := by rw [← strs_length hi]; simp
  refine wpAny_call (codeAny_of_tree ?_)
  show wpAny _ _ (callAny (.type "set") _) _ _ _
  refine wpAny_pure ⟨Code.quiet_builtin _ (by decide +kernel), codeAny_builtin F.entry_type_call ?_⟩
  rw [Around.under_plain (weight_type_call_type "set" [.ref l] []) rfl]
  have h1 := F.called_set.notType
  have h2 := F.called_set.canCreate
  have hct := F.typeCall_set_1 (.ref l)
  repeat (any_goals (first | assumption | wp_step))

  refine codeAny_mono (code_set_new_1 (.ref l) (E := E) (Q₁ := fun obj s₁ => ∃ led : Bool, obj = .ref s.heap.objs.size ∧ s₁ = { s with heap := s.heap.push { cls := .type "set", dict := none, data := .set #[] 0 (.fresh 0 0 led) } }) fun led => ⟨led, rfl, rfl⟩) fun r s₁ hr => ?_
  cases r with
  | error e => exact hr
  | ok fl =>
    cases fl with
    | ret obj =>
      obtain ⟨led, rfl, rfl⟩ := hr
      have hS : (s.heap.push { cls := .type "set", dict := none, data := .set #[] 0 (.fresh 0 0 led) }).get? s.heap.objs.size = some { cls := .type "set", dict := none, data := .set #[] 0 (.fresh 0 0 led) } := Heap.get?_push_size _ rfl
      have hT : Shared.TypeIs { s with heap := s.heap.push { cls := .type "set", dict := none, data := .set #[] 0 (.fresh 0 0 led) } } (.ref s.heap.objs.size) "set" := ⟨_, hS, rfl⟩
      have hli := F.called_set.init.lookup
      have hbi := F.called_set.init.bind (.ref s.heap.objs.size)
      repeat (any_goals (first | assumption | wp_step))

      refine codeAny_mono (codeAny_call_builtin (R := wants (fun r s₂ => r = .none ∧ ∃ h' tk, s₂ = { s with heap := h', toks := tk } ∧
          StrSet prog w h' s.heap.objs.size us ∧
          (∀ b o, b < s.heap.objs.size → s.heap.get? b = some o → h'.get? b = some o)) E) F.called_set.init.plain F.entry_set_init (check_set_init_1 hT ?_)) fun r₂ s₂ hr₂ => ?_
      · obtain ⟨ol, hol, hcl, nl, hdl⟩ := hl
        obtain ⟨ocls, odict, odata, oslots⟩ := ol
        simp only at hcl hdl
        subst hcl; subst hdl
        have hol' : (s.heap.push { cls := .type "set", dict := none, data := .set #[] 0 (.fresh 0 0 led) }).get? l = some { cls := .type "list", dict := odict, data := .seq items nl, slots := oslots } := Heap.get?_push_of_some _ hol
        have hsls := F.sub_list_set
        have hslf := F.sub_list_frozenset
        have hne : (Value.type "list" == Value.type "dict") = false := by decide
        have hl1 : (s.heap.push { cls := .type "set", dict := none, data := .set #[] 0 (.fresh 0 0 led) }).IsList l items := ⟨_, hol', rfl, nl, rfl⟩
        unfold Builtin.«set.__init__» noKeywords Builtin.Frozenset.updateFrom
        generalize hPI : pyIter = PI
        wp_walk
        subst hPI

        refine wpAny_pyIter_list hl1 ?_
        refine wpAny_bind (wpAny_runValue ?_)
        have hlS : l < s.heap.objs.size := Heap.lt_size hol
        have hh3 : A.in1.in1.in1.handled = none := by simp [hh]
        have hneI : l ≠ (s.heap.push { cls := .type "set", dict := none, data := .set #[] 0 (.fresh 0 0 led) }).objs.size := by
          rw [Heap.size_push]; exact Nat.ne_of_lt (Nat.lt_succ_of_lt hlS)
        have hSf : s.heap.objs.size ∉ [(s.heap.push { cls := .type "set", dict := none, data := .set #[] 0 (.fresh 0 0 led) }).objs.size, l] := by
          rw [Heap.size_push]; simp only [List.mem_cons, List.mem_singleton, List.not_mem_nil, or_false, not_or]
          exact ⟨Nat.ne_of_lt (Nat.lt_succ_self _), Nat.ne_of_gt hlS⟩
        have hval : ∀ (i : Nat) (v : Value), items[i]? = some v → ∃ x t, us[i]? = some x ∧ v = .str x t := fun i v hv =>
          strs_get hi (by rw [Array.getElem?_toList]; exact hv)
        refine set_loop_str ((Walks.list hh3 _ l hneI items).toS) s.heap.objs.size
          hSf us hsz hval (by omega) (items.size - 0) 0 _ (by omega) (Nat.zero_le _)
          ⟨⟨_, Heap.get?_push_size _ rfl, rfl, rfl⟩, (hl1.push _)⟩ ?hS0 ?hR
        case hS0 =>
          have hget : ((s.heap.push { cls := .type "set", dict := none, data := .set #[] 0 (.fresh 0 0 led) }).push { cls := .type "list_iterator", data := .fields #[.ref l, .int 0 0] }).get? s.heap.objs.size
              = some { cls := .type "set", dict := none, data := .set #[] 0 (.fresh 0 0 led) } := Heap.get?_push_of_some _ hS
          exact ⟨0, Nat.zero_le _, SetOf_congr ((setObjOf_fresh (knd := strKind prog w) led).setOf hget (by unfold scanBound; omega)) (fun _ => rfl) rfl⟩
        case hR =>
          intro s' hm hS'
          obtain ⟨h', g', d', tk', os'⟩ := s'
          have eg : g' = s.gens := hm.gens
          have ed : d' = s.drawn := hm.drawn
          have eo : os' = s.os := hm.os
          subst eg; subst ed; subst eo
          show wpAny _ _ _ _ _ _
          refine wpAny_pure ?_
          show wpAny _ _ (ret Value.none) _ _ _
          refine wpAny_pure ⟨rfl, h', tk', rfl, hS', fun b o hb e => ?_⟩
          have hb1 : b ≠ s.heap.objs.size := Nat.ne_of_lt hb
          have hb2 : b ≠ (s.heap.push { cls := .type "set", dict := none, data := .set #[] 0 (.fresh 0 0 led) }).objs.size := by
            rw [Heap.size_push]; exact Nat.ne_of_lt (Nat.lt_succ_of_lt hb)
          exact hm.heap b o (by simp only [List.mem_cons, List.mem_singleton, List.not_mem_nil, or_false, not_or]; exact ⟨hb1, hb2⟩) (Heap.get?_push_of_some _ (Heap.get?_push_of_some _ e))

      · cases r₂ with
        | error e => exact hr₂
        | ok fl₂ =>
          cases fl₂ with
          | ret r =>
            obtain ⟨rfl, h', tk, rfl, hS', hk'⟩ := hr₂
            repeat (any_goals (first | assumption | wp_step))
            exact h _ _ hS' hk'
          | _ => exact hr₂.elim
    | _ => exact hr.elim
end
end Mine

end

section
open PySem PySem.W PyProof.Rows PySem.Calls
namespace Mine
theorem owner_filter : Manifest.owners.lookup (String.ofList ['r', 'e', 't', 'l', 'i', 'f'].reverse) = some Manifest.sig_filter := by kernel_rfl
theorem slot_filter_init : Slot "filter" "__init__" "object.__init__" :=
  .of (owner := "object") (n := "__init__") (by rw [typeLookup_type, builtinLookup_eq_fast]; kernel_rfl) (by decide +kernel) (by decide +kernel) (by decide +kernel)
    (by first | exact .inl (by decide +kernel) | exact .inr (by decide +kernel)) (by rw [isSubtype_type]; kernel_rfl)
theorem slot_filter_iter : Slot "filter" "__iter__" "filter.__iter__" :=
  .of (owner := "filter") (n := "__iter__") (by rw [typeLookup_type, builtinLookup_eq_fast]; kernel_rfl) (by decide +kernel) (by decide +kernel) (by decide +kernel)
    (by first | exact .inl (by decide +kernel) | exact .inr (by decide +kernel)) (by rw [isSubtype_type]; kernel_rfl)
theorem slot_filter_next : Slot "filter" "__next__" "filter.__next__" :=
  .of (owner := "filter") (n := "__next__") (by rw [typeLookup_type, builtinLookup_eq_fast]; kernel_rfl) (by decide +kernel) (by decide +kernel) (by decide +kernel)
    (by first | exact .inl (by decide +kernel) | exact .inr (by decide +kernel)) (by rw [isSubtype_type]; kernel_rfl)
theorem args_filter_iter_1 (a : Value) : argsOk "filter.__iter__" ⟨[a], []⟩ := by
  unfold argsOk; rw [signature?_of (id := "filter.__iter__") (n := ['_', '_', 'r', 'e', 't', 'i', '_', '_']) (o := ['r', 'e', 't', 'l', 'i', 'f']) (by kernel_rfl) owner_filter]; kernel_rfl
theorem args_filter_next_1 (a : Value) : argsOk "filter.__next__" ⟨[a], []⟩ := by
  unfold argsOk; rw [signature?_of (id := "filter.__next__") (n := ['_', '_', 't', 'x', 'e', 'n', '_', '_']) (o := ['r', 'e', 't', 'l', 'i', 'f']) (by kernel_rfl) owner_filter]; kernel_rfl
theorem entry_filter_next : entryFor table "filter.__next__" = some Builtin.«filter.__next__» := entryFor_of_tree (by kernel_rfl)
theorem entry_filter_new : entryFor table "filter.__new__" = some Builtin.«filter.__new__» := entryFor_of_tree (by kernel_rfl)
theorem entry_filter_iter : entryFor table "filter.__iter__" = some Builtin.«dict_keyiterator.__iter__» :=
  entryFor_alias (id' := "dict_keyiterator.__iter__") (by kernel_rfl) (by first | rfl | decide +kernel | (unfold String.splitOn; simp +decide [String.splitOnAux])) (by decide +kernel) (by kernel_rfl)
theorem mro_filter : mroOf (.type "filter") = pure [.type "filter", .type "object"] := by rw [mroOf_type]; kernel_rfl
theorem lookup_filter_new : typeLookup (.type "filter") "__new__" = pure (some (.builtin "filter.__new__")) := by rw [typeLookup_type, builtinLookup_eq_fast]; kernel_rfl
theorem called_filter : TypeCalled "filter" "filter.__new__" "object.__init__" :=
  ⟨by decide +kernel, by decide +kernel, ⟨_, _, mro_filter⟩, madeBy_type mro_filter lookup_filter_new (by decide +kernel), by decide +kernel, by rw [isSubtype_type]; kernel_rfl, slot_filter_init⟩
theorem typeCall_filter_2 (a b : Value) : checkTypeCall "filter" ⟨[a, b], []⟩ = pure () := by kernel_rfl
theorem newCall_filter_2 (a b : Value) : checkBuiltinCall "filter.__new__" ⟨[.type "filter", a, b], []⟩ = pure () := by kernel_rfl
theorem args_object_init_3 (a b c : Value) : argsOk "object.__init__" ⟨[a, b, c], []⟩ := by
  unfold argsOk; rw [signature?_of (id := "object.__init__") (n := ['_', '_', 't', 'i', 'n', 'i', '_', '_']) (o := ['t', 'c', 'e', 'j', 'b', 'o']) (by kernel_rfl) F.owner_object]; kernel_rfl
theorem sub_filter : isSubtype (.type "filter") (.type "filter") = pure true := by rw [isSubtype_type]; kernel_rfl
theorem filter_no_len : typeLookup (.type "filter") "__len__" = pure none := by rw [typeLookup_type, builtinLookup_eq_fast]; kernel_rfl
theorem filter_no_hint : typeLookup (.type "filter") "__length_hint__" = pure none := by rw [typeLookup_type, builtinLookup_eq_fast]; kernel_rfl

noncomputable abbrev fltO (b it : Addr) : Obj := { cls := .type "filter", data := .fields #[.ref b, .ref it] }
noncomputable abbrev litO (l : Addr) : Obj := { cls := .type "list_iterator", data := .fields #[.ref l, .int 0 0] }

theorem meets_filter_new (b l : Addr) (items : Array Value) (n : Nat) (dct : Option Addr) (sl : Array (Option Value)) :
    Meets (Builtin.«filter.__new__» ⟨[.type "filter", .ref b, .ref l], []⟩) (fun _ R s => s.heap.get? l = some { cls := .type "list", dict := dct, data := .seq items n, slots := sl } ∧
      R (.ok (.ret (.ref (s.heap.push (litO l)).objs.size))) { s with heap := (s.heap.push (litO l)).push (fltO b s.heap.objs.size) }) :=
  .of_wp fun prog w A R s h => by
    obtain ⟨hp, g, d, tk, os⟩ := s; obtain ⟨hl, h⟩ := h
    have hsub := sub_filter
    have hL : Heap.IsList (Shared.heap ⟨hp, g, d, tk, os⟩) l items := ⟨_, hl, rfl, n, rfl⟩
    wp_walk using AutoSeq1.wpAny_loadPart' hl, wpAny_pyIter_list hL
    exact ⟨_, rfl, h⟩

section
variable {prog : Program} {w : World} {A : Around} {E : Value → Shared → Prop} {s : Shared}
theorem call_filter {b l : Addr} {items : Array Value} {Q : Value → Shared → Prop} (hL : s.heap.IsList l items)
    (h : Q (.ref (s.heap.push (litO l)).objs.size) { s with heap := (s.heap.push (litO l)).push (fltO b s.heap.objs.size) }) :
    wpAny (model prog w) A (call (.type "filter") [.ref b, .ref l]) Q E s := by
  obtain ⟨⟨c, dct, dt, sl⟩, hl, hc, n, hd⟩ := hL
  replace hc : c = .type "list" := hc
  replace hd : dt = .seq items n := hd
  subst hc hd
  refine callType_new called_filter (by decide) (typeCall_filter_2 _ _) (newCall_filter_2 _ _) (fun obj => args_object_init_3 obj _ _) entry_filter_new
    (meets_filter_new b l items n dct sl) ⟨hl, ?_⟩
  exact ⟨⟨_, Heap.get?_push_size _ rfl, rfl⟩, h⟩

/-- the next of a list's iterator, by its slot -/
theorem special_next_item {it l : Addr} {i : Nat} {items} {x : Value} {Q : Option Value → Shared → Prop} (hit : s.heap.IsListIter it l i)
    (hl : s.heap.IsList l items) (hx : items[i]? = some x)
    (hQ : ∀ h', h'.IsListIter it l (i + 1) → Heap.SameBut it s.heap h' → Q (some x) { s with heap := h' }) :
    wpAny (model prog w) A (callSpecial? (.ref it) "__next__") Q E s := by
  obtain ⟨o, ho, hc, hd⟩ := id hit
  obtain ⟨ol, hol, _, nl, hdl⟩ := hl
  refine (wpAny_callSpecial?_slot (name := Str.ofString "__next__") hit.typeIs slot_listiter_next
    (wpAny_call_entry slot_listiter_next hit.typeIs entry_listiter_next ?_ (args_listiter_next _)))
  show wpAny _ _ (field (.ref it) 0 >>= _) _ _ s
  refine wpAny_bind (wpAny_field ho hd (x := .ref l) rfl ?_)
  show wpAny _ _ (if (Value.ref l == Value.none) = true then _ else _) _ _ s
  rw [if_neg (show ¬ ((Value.ref l == Value.none) = true) from Bool.false_ne_true)]
  show wpAny _ _ (field (.ref it) 1 >>= _) _ _ s
  refine wpAny_bind (wpAny_field ho hd (x := .int i 0) rfl ?_)
  show wpAny _ _ (seqItems? (.ref l) >>= _) _ _ s
  refine wpAny_bind (wpAny_seqItems hol hdl ?_)
  simp only [Int.toNat_natCast, hx]
  refine wpAny_bind (wpAny_setField ho hd (by simp) (wpAny_pure ⟨x, rfl, (hQ _ ?_ (Heap.SameBut.update ..))⟩))
  exact ⟨_, Heap.get?_update_self _ ho (Obj.isFreed_of_fields (Obj.data_mapFields hd _)), (Obj.cls_mapFields ..).trans hc, by
    rw [Obj.data_mapFields hd]; simp [rawInt]⟩
theorem special_next_end {it l : Addr} {i : Nat} {items} {Q : Option Value → Shared → Prop} (hh : A.handled = none)
    (hit : s.heap.IsListIter it l i) (hl : s.heap.IsList l items) (hx : items[i]? = none)
    (hE : ∀ h' e, Heap.ExtBut it s.heap h' → (∃ o, h'.get? e = some o ∧ o.cls = .type "StopIteration") → E (.ref e) { s with heap := h' }) :
    wpAny (model prog w) A (callSpecial? (.ref it) "__next__") Q E s := by
  obtain ⟨o, ho, hc, hd⟩ := id hit
  obtain ⟨ol, hol, _, nl, hdl⟩ := hl
  refine (wpAny_callSpecial?_slot (name := Str.ofString "__next__") hit.typeIs slot_listiter_next
    (wpAny_call_entry slot_listiter_next hit.typeIs entry_listiter_next ?_ (args_listiter_next _)))
  show wpAny _ _ (field (.ref it) 0 >>= _) _ _ s
  refine wpAny_bind (wpAny_field ho hd (x := .ref l) rfl ?_)
  show wpAny _ _ (if (Value.ref l == Value.none) = true then _ else _) _ _ s
  rw [if_neg (show ¬ ((Value.ref l == Value.none) = true) from Bool.false_ne_true)]
  show wpAny _ _ (field (.ref it) 1 >>= _) _ _ s
  refine wpAny_bind (wpAny_field ho hd (x := .int i 0) rfl ?_)
  show wpAny _ _ (seqItems? (.ref l) >>= _) _ _ s
  refine wpAny_bind (wpAny_seqItems hol hdl ?_)
  simp only [Int.toNat_natCast, hx]
  refine wpAny_bind (wpAny_rule (wpAny_bind (wpAny_setField ho hd (by simp) ?_)))
  show wpAny _ _ (newExc (.type "StopIteration") [] >>= _) _ _ _
  refine wpAny_bind ?_
  simp only [newExc, newTuple]
  refine wpAny_bind (wpAny_newObj_type ?_ (by size_fits))
  refine wpAny_bind (m := firstArgMember _ _) (wpAny_of_eq (a := Value.none) (by first | rfl | (simp only [firstArgMember]; rfl)) ?_)
  refine wpAny_newObj_type ?_ (by size_fits)
  simp only [raiseNew]
  refine wpAny_bind (wpAny_handled ?_)
  first | rw [show A.in1.handled = none from hh] | rw [hh]
  refine wpAny_bind (wpAny_pure (wpAny_throw ?_))
  exact hE _ _ (((Heap.SameBut.update ..).extBut.push _).push _) ⟨_, Heap.get?_push_size _ rfl, rfl⟩
end
end Mine

end

section
open PySem PySem.W PyProof.Rows PySem.Calls
namespace Mine
noncomputable def inUs (us : List Str) : Value → Bool
  | .str x _ => us.contains x
  | _ => false
theorem plain_filter_next : plainId "filter.__next__" = true := slot_filter_next.plain
section
variable {prog : Program} {w : World} {A : Around} {R : Result → Shared → Prop}
/-- what stands: the filter, the bound method, the set and the list -/
structure FltAt (prog : Program) (w : World) (e it b a l : Addr) (us : List Str) (items : List Value) (h : Heap) : Prop where
  e : h.get? e = some (fltO b it)
  b : h.get? b = some (boundO a)
  a : StrSet prog w h a us
  l : h.IsList l items.toArray
theorem FltAt.keep {e it b a l : Addr} {us : List Str} {items : List Value} {h h' : Heap} (x : FltAt prog w e it b a l us items h) (k : ∀ c ∈ [e, b, a, l], ∀ o, h.get? c = some o → h'.get? c = some o) : FltAt prog w e it b a l us items h' :=
  ⟨k e (by simp) _ x.e, k b (by simp) _ x.b, x.a.at fun o => k a (by simp) o, x.l.at fun o => k l (by simp) o⟩
theorem flt_next {e it b a l : Addr} {us xs : List Str} {items : List Value} (hit0 : it ∉ [e, b, a, l]) (hi : StrsAre items xs) (hh : A.handled = none) :
    ∀ (k p : Nat) (s : Shared), items.length - p = k → p ≤ items.length → FltAt prog w e it b a l us items s.heap → s.heap.IsListIter it l p →
      (∀ v rest, (items.drop p).filter (inUs us) = v :: rest → ∀ (q : Nat) (h' : Heap) (tk : Nat), q ≤ items.length → (items.drop q).filter (inUs us) = rest → h'.IsListIter it l q → (∀ c o, c ≠ it → s.heap.get? c = some o → h'.get? c = some o) → s.toks ≤ tk →
        R (.ok (.ret v)) { s with heap := h', toks := tk }) →
      ((items.drop p).filter (inUs us) = [] → ∀ (h' : Heap) (tk : Nat) (x : Addr), (∀ c o, c ≠ it → s.heap.get? c = some o → h'.get? c = some o) → (∃ o, h'.get? x = some o ∧ o.cls = .type "StopIteration") → s.toks ≤ tk →
        R (.error (.ref x)) { s with heap := h', toks := tk }) →
      codeAny (model prog w) A (.builtin "filter.__next__" ⟨[.ref e], []⟩) R s := by
  intro k
  induction k with
  | zero =>
    intro p s hk hp H hit h1 h2
    have hpe : p = items.length := by omega
    refine codeAny_builtin entry_filter_next ?_
    rw [Around.under_plainId plain_filter_next _]
    show wpAny _ _ (field (.ref e) 0 >>= _) _ _ s
    refine wpAny_bind (wpAny_field H.e rfl (x := .ref b) rfl ?_)
    show wpAny _ _ (field (.ref e) 1 >>= _) _ _ s
    refine wpAny_bind (wpAny_field H.e rfl (x := .ref it) rfl ?_)
    refine wpAny_bind (special_next_end (by simp [hh]) hit H.l (by simp [hpe]) fun h' x hx hs => ?_)
    exact h2 (by simp [hpe]) h' s.toks x (fun c o hc e' => hx c o hc e') hs (Nat.le_refl _)
  | succ k ih =>
    intro p s hk hp H hit h1 h2
    have hlt : p < items.length := by omega
    obtain ⟨x, t, hx, hv⟩ := strs_get hi (List.getElem?_eq_getElem hlt)
    have hget : items.toArray[p]? = some (.str x t) := by simp [hlt, hv]
    have hdrop : items.drop p = .str x t :: items.drop (p + 1) := by rw [List.drop_eq_getElem_cons hlt, hv]
    refine codeAny_builtin entry_filter_next ?_
    rw [Around.under_plainId plain_filter_next _]
    show wpAny _ _ (field (.ref e) 0 >>= _) _ _ s
    refine wpAny_bind (wpAny_field H.e rfl (x := .ref b) rfl ?_)
    show wpAny _ _ (field (.ref e) 1 >>= _) _ _ s
    refine wpAny_bind (wpAny_field H.e rfl (x := .ref it) rfl ?_)
    refine wpAny_bind (special_next_item hit H.l hget fun h' hit' hsb => ?_)
    have hkeep : ∀ c o, c ≠ it → s.heap.get? c = some o → h'.get? c = some o := fun c o hc e' => (hsb.2 c hc).trans e'
    have H' : FltAt prog w e it b a l us items h' := H.keep fun c hc o e' => hkeep c o (fun q => hit0 (q ▸ hc)) e'
    obtain ⟨m, hm, hS⟩ := H'.a
    refine wpAny_bind (wpAny_holding ?_)
    refine wpAny_ite_split (fun hab => absurd (show false = true from hab) (by decide)) (fun _ => ?_)
    refine wpAny_bind (bnd_call (s := { s with heap := h' }) H'.b hS ?_)
    refine wpAny_holding (wpAny_truthy_bool ?_)
    cases hc : us.contains x with
    | true =>
      refine wpAny_ite_split (fun _ => ?_) (fun hab => absurd rfl hab)
      refine wpAny_pure (h1 (.str x t) ((items.drop (p + 1)).filter (inUs us)) ?_ (p + 1) h' (s.toks + 1) hlt rfl hit' hkeep (Nat.le_succ _))
      rw [hdrop, List.filter_cons_of_pos (by show us.contains x = true; exact hc)]
    | false =>
      have hf : (items.drop p).filter (inUs us) = (items.drop (p + 1)).filter (inUs us) := by
        rw [hdrop, List.filter_cons_of_neg (by show ¬ us.contains x = true; rw [hc]; decide)]
      refine wpAny_ite_split (fun hab => absurd hab (by decide)) (fun _ => ?_)
      refine wpAny_pure ⟨plainId_quiet plain_filter_next _, ih (p + 1) ⟨h', s.gens, s.drawn, s.toks + 1, s.os⟩ (by omega) hlt H' hit' (fun v rest hr q h'' tk hq hf' hit'' hk'' ht => ?_) (fun hr h'' tk y hk'' hs ht => ?_)⟩
      · exact h1 v rest (hf.trans hr) q h'' tk hq hf' hit'' (fun c o hc e' => hk'' c o hc (hkeep c o hc e')) (Nat.le_trans (Nat.le_succ _) ht)
      · exact h2 (hf.trans hr) h'' tk y (fun c o hc e' => hk'' c o hc (hkeep c o hc e')) hs (Nat.le_trans (Nat.le_succ _) ht)

theorem flt_self {E : Value → Shared → Prop} {s : Shared} {e b it : Addr} {Q : Value → Shared → Prop} (he : s.heap.get? e = some (fltO b it)) (h : Q (.ref e) s) : wpAny (model prog w) A (pyIter (.ref e)) Q E s := by
  have hT : s.TypeIs (.ref e) "filter" := ⟨_, he, rfl⟩
  refine wpAny_pyIter_slot hT slot_filter_iter (wpAny_call_entry slot_filter_iter hT entry_filter_iter ?_ (args_filter_iter_1 _))
  show wpAny _ _ (ret (.ref e)) _ _ s
  exact wpAny_pure ⟨_, rfl, "filter", _, hT, slot_filter_next.lookup, h⟩

theorem flt_special {E : Value → Shared → Prop} {s : Shared} {e b it : Addr} {Q : Option Value → Shared → Prop} (he : s.heap.get? e = some (fltO b it))
    (h : codeAny (model prog w) A (.builtin "filter.__next__" ⟨[.ref e], []⟩) (wants (fun v => Q (some v)) E) s) : wpAny (model prog w) A (callSpecial? (.ref e) "__next__") Q E s := by
  have hT : s.TypeIs (.ref e) "filter" := ⟨_, he, rfl⟩
  refine wpAny_callSpecial?_slot (name := Str.ofString "__next__") hT slot_filter_next (wpAny_call (codeAny_of_tree ?_))
  show wpAny _ _ (do checkBuiltinCall "filter.__next__" ⟨[.ref e], []⟩; again (.builtin "filter.__next__" ⟨[.ref e], []⟩)) _ _ s
  refine wpAny_bind (slot_filter_next.check _ _ _ _ _ _ _ _ hT (args_filter_next_1 _) (wpAny_pure ⟨plainId_quiet plain_filter_next _, ?_⟩))
  exact h

theorem walk_filter (e it b a l : Addr) (us xs : List Str) (items : List Value) (hit0 : it ∉ [e, b, a, l]) (hi : StrsAre items xs) (hh : A.handled = none) :
    WalksS prog w A e [it, e, b, a, l] [it] (fun x y => y = x) ((items.filter (inUs us)).length) (fun i v => (items.filter (inUs us))[i]? = some v)
      (fun i s => FltAt prog w e it b a l us items s.heap ∧ ∃ p, p ≤ items.length ∧ s.heap.IsListIter it l p ∧ (items.drop p).filter (inUs us) = (items.filter (inUs us)).drop i) where
  sub := fun c hc => by simp at hc; simp [hc]
  grefl := fun _ => rfl
  gtrans := fun _ _ _ x y => y.trans x
  frame := fun i s h' tk st _ hk => ⟨st.1.keep fun c hc o => hk c (List.mem_cons_of_mem _ hc) o, by
    obtain ⟨p, hp, hit, hf⟩ := st.2
    exact ⟨p, hp, hit.at fun o e' => hk it List.mem_cons_self o e', hf⟩⟩
  item := fun i s Q E hlt st hQ => by
    obtain ⟨H, p, hp, hit, hf⟩ := st
    have hc : (items.filter (inUs us)).drop i = (items.filter (inUs us))[i] :: (items.filter (inUs us)).drop (i + 1) := List.drop_eq_getElem_cons hlt
    unfold pyNext
    refine wpAny_bind (wpAny_attempt (flt_special H.e (flt_next hit0 hi hh _ p s rfl hp H hit (fun v rest hr q h' tk hq hfq hit' hk ht => ?_) (fun hr => ?_))))
    · rw [hf, hc] at hr
      injection hr with e1 e2
      refine wpAny_pure (hQ v ⟨h', s.gens, s.drawn, tk, s.os⟩ (by rw [← e1]; exact List.getElem?_eq_getElem hlt) ⟨H.keep fun c hc' o e' => hk c o (fun q' => hit0 (q' ▸ hc')) e', q, hq, hit', hfq.trans e2.symm⟩ ⟨fun c o hc' e' => hk c o (by simpa using hc') e', rfl, rfl, rfl, ht⟩)
    · rw [hf, hc] at hr; cases hr
  done := fun s Q E st hQ => by
    obtain ⟨H, p, hp, hit, hf⟩ := st
    rw [List.drop_of_length_le (Nat.le_refl _)] at hf
    unfold pyNext
    refine wpAny_bind (wpAny_attempt (flt_special H.e (flt_next hit0 hi hh _ p s rfl hp H hit (fun v rest hr => ?_) (fun _ h' tk x hk hs ht => ?_))))
    · rw [hf] at hr; cases hr
    · obtain ⟨o, ho, hc⟩ := hs
      refine wpAny_bind (wpAny_isInstance (T := "StopIteration") (b := true) ⟨o, ho, hc⟩ isSubtype_stop ?_)
      exact wpAny_pure (hQ ⟨h', s.gens, s.drawn, tk, s.os⟩ ⟨fun c o hc' e' => hk c o (by simpa using hc') e', rfl, rfl, rfl, ht⟩)
  self := fun i s Q E st hQ => flt_self st.1.e hQ
end

section
variable {prog : Program} {w : World} {A : Around} {s : Shared} {R : Result → Shared → Prop}
variable {I : Addr} {fp wr : List Addr} {G : Array GenState → Array GenState → Prop} {n : Nat} {P : Nat → Value → Prop} {St : Nat → Shared → Prop}
theorem extend_flt (W : WalksS prog w A.in1 I fp wr G n P St) (hT : ∀ i s, St i s → s.TypeIs (.ref I) "filter") (S : Addr) (res : Value) (c₀ : Nat) (hst : St 0 s) (hSf : S ∉ fp) (hI : I ∈ fp)
    (hS : s.heap.get? S = some { cls := .type "list", data := .seq #[] c₀ })
    (hR : ∀ s' acc' c', Moved (S :: wr) G s s' → s'.heap.get? S = some { cls := .type "list", dict := none, data := .seq acc' c', slots := #[] } → ItemsOf P acc' n → R (.ok (.ret res)) s') (hn : n ≤ sizeLine := by size_fits) :
    wpAny (model prog w) A.in1 (Builtin.List.listExtendWith (.ref S) (.ref I) res)
      (fun fin s' => match fin with | .done f => R (.ok f) s' | .again c' => c'.quiet = true ∧ codeAny (model prog w) A c' R s') (fun e s' => R (.error e) s') s := by
  have hSI : S ≠ I := fun e => hSf (e ▸ hI)
  unfold Builtin.List.listExtendWith
  refine wpAny_bind (wpAny_typeOf (hT 0 _ hst) ?_)
  have h1 : Builtin.List.listSameRef (.ref S) (.ref I) = false := by simp [Builtin.List.listSameRef, hSI]
  have h2 : (Value.type "filter" == Value.type "list") = false := by decide
  have h3 : (Value.type "filter" == Value.type "tuple") = false := by decide
  simp only [h1, h2, h3, Bool.or_false, Bool.false_eq_true, if_false]
  refine wpAny_bind (W.self 0 _ _ _ hst ?_)
  refine wpAny_bind (wpAny_holding ?_)
  unfold Builtin.List.listLengthHint
  refine wpAny_bind (wpAny_specialOf (hT 0 _ hst) filter_no_len ?_)
  show wpAny _ A.in1 (specialOf (Value.ref I) (Str.ofString "__length_hint__") >>= _) _ _ _
  refine wpAny_bind (wpAny_specialOf (hT 0 _ hst) filter_no_hint ?_)
  refine wpAny_pure ?_
  show wpAny _ A.in1 (rule "list.extend.makes-room" >>= fun _ => Builtin.List.listTouch (.ref S) >>= fun _ =>
    again (.builtin "list.extend.loop" ⟨[.ref S, .ref I, res], []⟩)) _ _ _
  refine wpAny_bind (wpAny_rule ?_)
  refine wpAny_bind ?_
  show wpAny _ A.in1 (updateSeq S (·.push .none) >>= fun _ => updateSeq S (·.pop)) _ _ _
  refine wpAny_bind (wpAny_updateSeq hS rfl ?_)
  have hS₂ := Heap.get?_update_self (Obj.mapSeq (·.push Value.none)) hS rfl
  refine wpAny_updateSeq (hz := by seq_fits) hS₂ rfl ?_
  have hS₃ := Heap.get?_update_self (Obj.mapSeq (·.pop)) hS₂ rfl
  have oth : ∀ b o, b ≠ S → s.heap.get? b = some o → ((s.heap.update S (Obj.mapSeq (·.push Value.none))).update S (Obj.mapSeq (·.pop))).get? b = some o :=
    fun b o hb e => (Heap.get?_update_other _ _ (Ne.symm hb)).trans ((Heap.get?_update_other _ _ (Ne.symm hb)).trans e)
  refine wpAny_pure ⟨plainId_quiet F.plain_extend_loop _, codeAny_extend_loopS W hn _ hSf _ n 0 _ _ _ rfl (Nat.zero_le _)
    (W.frame 0 s _ s.toks hst (Nat.le_refl _) fun b hb o e => oth b o (fun h => hSf (h ▸ hb)) e) hS₃ (ItemsOf.nil P) fun s' acc' c' hm hS' hacc => ?_⟩
  exact hR s' acc' c' (Moved.trans W.gtrans ((Moved.refl W.grefl).then_heap (Nat.le_refl _) fun b o hb e => oth b o (fun h => hb (h ▸ List.mem_cons_self)) e) hm) hS' hacc
theorem list_init_flt (W : WalksS prog w A.in1 I fp wr G n P St) (hT : ∀ i s, St i s → s.TypeIs (.ref I) "filter") (S : Addr) (hst : St 0 s) (hSf : S ∉ fp) (hI : I ∈ fp)
    (hS : s.heap.get? S = some { cls := .type "list", data := .seq #[] })
    (hR : ∀ s' acc' c', Moved (S :: wr) G s s' → s'.heap.get? S = some { cls := .type "list", dict := none, data := .seq acc' c', slots := #[] } → ItemsOf P acc' n → R (.ok (.ret .none)) s') (hn : n ≤ sizeLine := by size_fits) :
    wpAny (model prog w) A.in1 (Builtin.«list.__init__» ⟨[.ref S, .ref I], []⟩)
      (fun fin s' => match fin with | .done f => R (.ok f) s' | .again c' => c'.quiet = true ∧ codeAny (model prog w) A c' R s') (fun e s' => R (.error e) s') s := by
  show wpAny _ A.in1 (do let old ← Builtin.List.listItems (.ref S); Builtin.List.listUpdate (.ref S) (fun _ => #[]); letGo old.toList.reverse; Builtin.List.listExtendWith (.ref S) (.ref I) .none) _ _ s
  refine wpAny_bind ?_
  unfold Builtin.List.listItems
  refine wpAny_bind (wpAny_seqItems hS rfl (wpAny_pure ?_))
  show wpAny _ A.in1 (updateSeq S (fun _ => #[]) >>= fun _ => letGo (#[] : Array Value).toList.reverse >>= fun _ => Builtin.List.listExtendWith (.ref S) (.ref I) .none) _ _ s
  refine wpAny_bind (wpAny_updateSeq hS rfl ?_)
  have hS₂ := Heap.get?_update_self (Obj.mapSeq (fun _ => (#[] : Array Value))) hS rfl
  have oth : ∀ b o, b ≠ S → s.heap.get? b = some o → (s.heap.update S (Obj.mapSeq (fun _ => (#[] : Array Value)))).get? b = some o :=
    fun b o hb e => (Heap.get?_update_other _ _ (Ne.symm hb)).trans e
  refine wpAny_bind (wpAny_letGo ?_)
  refine extend_flt (hn := hn) W hT S .none _ (W.frame 0 s _ s.toks hst (Nat.le_refl _) fun b hb o e => oth b o (fun h => hSf (h ▸ hb)) e) hSf hI hS₂ fun s' acc' c' hm hS' hacc => ?_
  exact hR s' acc' c' (Moved.trans W.gtrans ((Moved.refl W.grefl).then_heap (Nat.le_refl _) fun b o hb e => oth b o (fun h => hb (h ▸ List.mem_cons_self)) e) hm) hS' hacc
end
section
variable {prog : Program} {w : World} {A : Around} {E : Value → Shared → Prop} {s : Shared}
theorem call_list_flt {Q : Value → Shared → Prop} {e it b a l : Addr} {us xs : List Str} {items : List Value} (hit0 : it ∉ [e, b, a, l]) (hi : StrsAre items xs) (hh : A.handled = none) (hn : items.length < 4096)
    (H : FltAt prog w e it b a l us items s.heap) (hit : s.heap.IsListIter it l 0)
    (hQ : ∀ h' tk c, (∀ k o, k ≠ it → s.heap.get? k = some o → h'.get? k = some o) → h'.get? s.heap.objs.size = some (listOf (items.filter (inUs us)).toArray c) → Q (.ref s.heap.objs.size) { s with heap := h', toks := tk }) :
    wpAny (model prog w) A (call (.type "list") [.ref e]) Q E s := by
  have W := walk_filter (prog := prog) (w := w) (A := A.in1.in1) e it b a l us xs items hit0 hi (by simp [hh])
  have hfp : ∀ c ∈ [it, e, b, a, l], c < s.heap.objs.size := by
    intro c hc
    obtain ⟨_, _, oa, _, _, _, ha, _⟩ := H.a
    obtain ⟨ol, hl, _⟩ := H.l
    obtain ⟨oi, hi', _⟩ := hit
    simp only [List.mem_cons, List.not_mem_nil, or_false] at hc
    rcases hc with rfl | rfl | rfl | rfl | rfl
    · exact Heap.lt_size hi'
    · exact Heap.lt_size H.e
    · exact Heap.lt_size H.b
    · exact Heap.lt_size ha
    · exact Heap.lt_size hl
  have hSf : s.heap.objs.size ∉ [it, e, b, a, l] := fun hm => Nat.lt_irrefl _ (hfp _ hm)
  have hlen : (items.filter (inUs us)).length ≤ sizeLine := by
    have := List.length_filter_le (inUs us) items
    rw [sizeLine_eq]; omega
  refine callType_codes (Q₁ := fun obj s₁ => obj = .ref s.heap.objs.size ∧ s₁ = { s with heap := s.heap.push { cls := .type "list", data := .seq #[] } }) F.called_list (F.typeCall_list_1 _) F.entry_list_init
    (code_list_new _ ⟨rfl, rfl⟩) fun obj s₁ h₁ => ?_
  obtain ⟨rfl, rfl⟩ := h₁
  have hS : (s.heap.push { cls := .type "list", data := .seq #[] }).get? s.heap.objs.size = some { cls := .type "list", data := .seq #[] } := Heap.get?_push_size _ rfl
  refine ⟨⟨_, hS, rfl⟩, F.args_list_init_2 _ _, list_init_flt (hn := hlen) W (fun i s st => ⟨_, st.1.e, rfl⟩) _
    ⟨H.keep fun c _ o e' => Heap.get?_push_of_some _ e', 0, Nat.zero_le _, hit.at fun o e' => Heap.get?_push_of_some _ e', rfl⟩ hSf (by simp) hS fun s' acc' c' hm hS' hacc => ?_⟩
  refine ⟨rfl, ?_⟩
  rw [Moved.eq_with hm]
  have hacc' : acc' = (items.filter (inUs us)).toArray := by
    apply Array.ext
    · rw [hacc.1]; simp
    · intro i h1 h2
      have this : (items.filter (inUs us))[i]? = some acc'[i] := hacc.2 i acc'[i] (Array.getElem?_eq_getElem h1)
      have h3 : i < (items.filter (inUs us)).length := by simpa using h2
      rw [List.getElem?_eq_getElem h3] at this
      simpa using (Option.some.inj this).symm
  refine hQ s'.heap s'.toks c' (fun k o hk e' => ?_) (by rw [← hacc']; exact hS')
  refine hm.heap k o (fun hmem => ?_) (Heap.get?_push_of_some _ e')
  rcases List.mem_cons.mp hmem with e1 | e1
  · exact absurd (Heap.lt_size e') (by rw [e1]; exact Nat.lt_irrefl _)
  · exact hk (List.mem_singleton.mp e1)
end
end Mine

end

section
open PySem PySem.W PyProof.Rows PySem.Calls
namespace Mine
theorem ext_low {h h' : Heap} (hk : ∀ b o, b < h.objs.size → h.get? b = some o → h'.get? b = some o) : Ext h h' := fun b o e => hk b o (Heap.lt_size e) e
theorem ext_push {h : Heap} {o : Obj} : Ext h (h.push o) := fun _ _ e => Heap.get?_push_of_some _ e
theorem none_size {h : Heap} : h.get? h.objs.size = none := by
  cases q : h.get? h.objs.size with
  | none => rfl
  | some o => exact absurd (Heap.lt_size q) (Nat.lt_irrefl _)
section
variable {w : World} {A : Around} {E : Value → Shared → Prop} {s : Shared} {h₀ : Heap} {L : Addr} {m : Str → Option Value} {led : List (Addr × Obj)}
theorem set_step {l : Addr} {items : List Value} {us : List Str} {Q : Value → Shared → Prop} (F : Fr h₀ L s.heap m) (N : News h₀ L s.heap led) (hh : A.handled = none) (hl : s.heap.IsList l items.toArray) (hi : StrsAre items us) (hb : us.length < 100)
    (h : ∀ h' tk a b, Fr h₀ L h' m → News h₀ L h' led → StrSet PR w h' a us → h'.get? b = some (boundO a) → Q (.ref b) { s with heap := h', toks := tk }) :
    wpAny (model PR w) A (call (.type "set") [.ref l]) (fun o s₁ => wpAny (model PR w) A (getAttr o "__contains__" true) Q E s₁) E s := by
  refine call_set_strs hh hl (us := us) (by simpa using hi) (by unfold scanBound; omega) fun h₂ tk₂ hS₂ hk₂ => ?_
  obtain ⟨m₂, hm₂, hSet⟩ := id hS₂
  obtain ⟨es, ep, tb, hso⟩ := SetOf_setO hSet
  refine bnd_attr hso (h _ _ s.heap.objs.size h₂.objs.size (after_F (after_F F (ext_low hk₂)) ext_push) (after_N (after_N N (ext_low hk₂)) ext_push) (hS₂.at fun o e => Heap.get?_push_of_some _ e) (Heap.get?_push_size _ rfl))
theorem filter_step {a b l : Addr} {items : List Value} {us : List Str} {Q : Value → Shared → Prop} (F : Fr h₀ L s.heap m) (N : News h₀ L s.heap led) (hl : s.heap.IsList l items.toArray) (hS : StrSet PR w s.heap a us) (hb : s.heap.get? b = some (boundO a))
    (h : ∀ h' e it, Fr h₀ L h' m → News h₀ L h' led → FltAt PR w e it b a l us items h' → h'.IsListIter it l 0 → it ∉ [e, b, a, l] → it ≠ L → it ∉ led.map (·.1) → h₀.get? it = none → Q (.ref e) { s with heap := h' }) :
    wpAny (model PR w) A (call (.type "filter") [.ref b, .ref l]) Q E s := by
  refine call_filter hl ?_
  have lt_b : b < s.heap.objs.size := Heap.lt_size hb
  have lt_a : a < s.heap.objs.size := by obtain ⟨_, _, _, _, _, _, x, _⟩ := hS; exact Heap.lt_size x
  have lt_l : l < s.heap.objs.size := by obtain ⟨_, x, _⟩ := hl; exact Heap.lt_size x
  have hz : (s.heap.push (litO l)).objs.size = s.heap.objs.size + 1 := Heap.size_push ..
  obtain ⟨o1, o2, o3⟩ := next_off F N
  refine h _ _ s.heap.objs.size (after_F (after_F F ext_push) ext_push) (after_N (after_N N ext_push) ext_push) ⟨Heap.get?_push_size _ rfl, Heap.get?_push_of_some _ (Heap.get?_push_of_some _ hb), hS.at fun o e => Heap.get?_push_of_some _ (Heap.get?_push_of_some _ e), hl.at fun o e => Heap.get?_push_of_some _ (Heap.get?_push_of_some _ e)⟩
    ⟨_, Heap.get?_push_of_some _ (Heap.get?_push_size _ rfl), rfl, rfl⟩ ?_ (fun e => ?_) (fun hm => ?_) ?_
  · simp only [List.mem_cons, List.not_mem_nil, or_false]
    rintro (e | e | e | e)
    · rw [hz] at e; exact Nat.succ_ne_self _ e.symm
    · exact Nat.lt_irrefl _ (e ▸ lt_b)
    · exact Nat.lt_irrefl _ (e ▸ lt_a)
    · exact Nat.lt_irrefl _ (e ▸ lt_l)
  · obtain ⟨oL, _, _, hL, _⟩ := F.ns
    rw [← e, none_size] at hL; cases hL
  · obtain ⟨p, hp, e⟩ := List.mem_map.mp hm
    have := (N p hp).1
    rw [e, none_size] at this; cases this
  · cases q : h₀.get? s.heap.objs.size with
    | none => rfl
    | some o => have := F.keep _ _ q; rw [none_size] at this; cases this
theorem list_step {e it b a l : Addr} {items : List Value} {us xs : List Str} {Q : Value → Shared → Prop} (F : Fr h₀ L s.heap m) (N : News h₀ L s.heap led) (H : FltAt PR w e it b a l us items s.heap) (hit : s.heap.IsListIter it l 0) (h1 : it ∉ [e, b, a, l]) (h2 : it ≠ L) (h3 : it ∉ led.map (·.1)) (h4 : h₀.get? it = none)
    (hi : StrsAre items xs) (hh : A.handled = none) (hn : items.length < 100)
    (h : ∀ h' tk r c, Fr h₀ L h' m → News h₀ L h' ((r, listOf (items.filter (inUs us)).toArray c) :: led) → (∀ p ∈ led, p.1 < r) → Q (.ref r) { s with heap := h', toks := tk }) :
    wpAny (model PR w) A (call (.type "list") [.ref e]) Q E s := by
  refine call_list_flt h1 hi hh (by omega) H hit fun h' tk c hk hr => ?_
  obtain ⟨oL, _, _, hL, _⟩ := id F.ns
  refine h h' tk _ c ⟨F.ns.at' fun o e => hk L o (Ne.symm h2) e, fun k o e => hk k o (fun q => by rw [q, h4] at e; cases e) (F.keep k o e), F.above⟩ (fun p hp => ?_) (fun p hp => Heap.lt_size (N p hp).1)
  rcases List.mem_cons.mp hp with rfl | hp
  · refine ⟨hr, Nat.ne_of_gt (Heap.lt_size hL), ?_⟩
    cases q : h₀.get? s.heap.objs.size with
    | none => rfl
    | some o => have := F.keep _ _ q; rw [none_size] at this; cases this
  · exact ⟨hk _ _ (fun q => h3 (List.mem_map.mpr ⟨p, hp, q⟩)) (N p hp).1, (N p hp).2⟩
end
end Mine

end

section
open PySem PySem.W PyProof.Rows PySem.Calls
namespace Mine
theorem reset_S8 : True := by w_top off; k_with_none; trivial
theorem lines_S8_0 : True := by
  k_with "execs cons" => ((refine' aft_flat ?e ?_; (case e => first | (dsimp only; done) | (dsimp only; exact rfl) | exact rfl); intro _ _ _))
  k_with "execs nil" => (refine wpAny_execs_nil ?_)
  k_with "exec If" => (refine wpAny_If ?_)
  k_with "Post next" => (first | refine aft_end (by with_reducible assumption) ?_ | refine aft_next (by with_reducible assumption) ?_)
  k_with "Post ret" => (refine aft_ret (by with_reducible assumption) ?_)
  k_with "Post brk" => (refine aft_brk (by with_reducible assumption) ?_)
  k_with "Post cont" => (refine aft_cont (by with_reducible assumption) ?_)
  k_with "GenPost ret" => (refine genPost_ret ?_)
  k_with "call" => (((with_reducible show wpAny _ _ (call (Value.type _) _) _ _ _); refine sub_A (by with_reducible assumption) ?_))
  k_with "call ref" => (refine sub_A (by with_reducible assumption) ?_)
  k_with "call type:set" => (refine held ?_)
  k_with "eval IfExp" => (refine held ?_)
  trivial
local macro_rules | `(tactic| k_room) => `(tactic| ktr_room)
theorem inst_base {h₀ h : Heap} {L x C dx : Addr} {m : Str → Option Value} {od : Obj} (F : Fr h₀ L h m) (h1 : h₀.get? x = some (instObj C dx)) (h2 : h₀.get? dx = some od) : InstAt h x (instObj C dx) C (some od) := ⟨F.keep _ _ h1, rfl, rfl, F.keep _ _ h2⟩
local macro_rules | `(tactic| k_inst) => `(tactic| (refine' inst_base ?F ?h1 ?h2; (case F => k_asm); (case h1 => assumption); (case h2 => assumption)))

/-- the plain values that delays and rates are -/
noncomputable def Pl (v : Value) : Prop := v = .none ∨ (∃ n t, v = .int n t) ∨ ∃ x t, v = .str x t
theorem Pl.handed {v : Value} (h : Pl v) : handedIn v = true := by
  rcases h with rfl | ⟨n, t, rfl⟩ | ⟨x, t, rfl⟩ <;> rfl
noncomputable def pick (a b : Value) : Value := match b with | .none => a | _ => b
local macro_rules | `(tactic| k_handed) => `(tactic| assumption)
theorem filter_strs {vs : List Value} {us ks : List Str} (h : StrsAre vs us) : StrsAre (vs.filter (inUs ks)) (us.filter (ks.contains ·)) := by
  induction h with
  | nil => exact .nil
  | cons x t _ ih =>
    cases hc : ks.contains x with
    | true => rw [List.filter_cons_of_pos (by show ks.contains x = true; exact hc), List.filter_cons_of_pos hc]; exact .cons x t ih
    | false => rw [List.filter_cons_of_neg (by show ¬ ks.contains x = true; rw [hc]; decide), List.filter_cons_of_neg (by rw [hc]; decide)]; exact ih
theorem strs_app {a b : List Value} {xs ys : List Str} (h : StrsAre a xs) (g : StrsAre b ys) : StrsAre (a ++ b) (xs ++ ys) := by
  induction h with
  | nil => exact g
  | cons x t _ ih => exact .cons x t ih
theorem merge_ct (w : World) (e1 e2 : Addr) (d1 u1 r1 d2 u2 r2 : Addr) (dl1 rt1 dl2 rt2 : Value) (p1 p2 p3 p4 q1 q2 q3 q4 : Tok) (i1 j1 i2 j2 : List Value) (us1 rs1 us2 rs2 : List Str) (hi1 : StrsAre i1 us1) (hj1 : StrsAre j1 rs1) (hi2 : StrsAre i2 us2) (hj2 : StrsAre j2 rs2)
    (hs1 : us1.length < 100) (hs2 : us2.length < 100) (hs3 : j1.length < 100) (hs4 : j2.length < 100) (v1 : Pl dl1) (v2 : Pl dl2) (v3 : Pl rt1) (v4 : Pl rt2) :
    CtP 3 w 70 [.ref e1, .ref e2] (fun h => h.get? e1 = some (instObj 59 d1) ∧ h.get? d1 = some (dictOf (recEs w.params u1 r1 dl1 rt1 p1 p2 p3 p4) 4) ∧ h.IsList u1 i1.toArray ∧ h.IsList r1 j1.toArray ∧
      h.get? e2 = some (instObj 59 d2) ∧ h.get? d2 = some (dictOf (recEs w.params u2 r2 dl2 rt2 q1 q2 q3 q4) 4) ∧ h.IsList u2 i2.toArray ∧ h.IsList r2 j2.toArray) fun v new => ∃ x, v = .ref x ∧ RecObjs w x (us1.filter (us2.contains ·)) (rs1 ++ rs2) (pick dl1 dl2) (pick rt1 rt2) new := by
  have w1 := v1.handed
  have w2 := v2.handed
  have w3 := v3.handed
  have w4 := v4.handed
  refine ct_enterP (binds := [(Str.ofString "e1", .ref e1), (Str.ofString "e2", .ref e2)]) (by k_is) (by k_is) (by rfl) (locs (by rfl)) ?_
  rintro dp un gd base fr s h₁ tk mean mg mb A L hA hz ⟨g1, g2, g3, g4, g5, g6, g7, g8⟩ hdp hun B X T F N
  k_steps
  rename Fr s.heap _ _ _ => F₁
  rename News s.heap _ _ _ => N₁
  refine unheld (set_step F₁ N₁ hz (F₁.lst g7) hi2 hs2 fun h₂ tk₂ a b F₂ N₂ hS₂ hb₂ => ?_)
  clear F₁ N₁
  k_steps
  refine filter_step F₂ N₂ (F₂.lst g3) hS₂ hb₂ fun h₃ e it F₃ N₃ H₃ hit₃ o1 o2 o3 o4 => ?_
  clear F₂ N₂ hS₂ hb₂
  k_steps
  refine list_step F₃ N₃ H₃ hit₃ o1 o2 o3 o4 hi1 rfl (by rw [strs_length hi1]; exact hs1) fun h₄ tk₄ r c F₄ N₄ l1 => ?_
  clear F₃ N₃ H₃ hit₃ o1 o2 o3 o4
  k_lt l1
  k_steps
  rename_i hO FO NO _ _ _ hN FN NN
  have l2 := fun p hp => Heap.lt_size (NO p hp).1
  k_lt l2
  dsimp only at NN l2 ⊢
  clear FO NO
  generalize hO.objs.size = r2 at NN l2 ⊢
  k_steps
  refine unheld (cut_some (fun v => v = pick dl1 dl2) ?_ ?_)
  · intro Q' hQ
    refine IfExp_ ?_
    rcases v2 with rfl | ⟨n, t, rfl⟩ | ⟨x, t, rfl⟩ <;> k_steps <;> exact hQ _ _ rfl
  rintro v tk₅ rfl
  k_steps
  refine unheld (cut_some (fun v => v = pick rt1 rt2) ?_ ?_)
  · intro Q' hQ
    refine IfExp_ ?_
    rcases v4 with rfl | ⟨n, t, rfl⟩ | ⟨x, t, rfl⟩ <;> k_steps <;> exact hQ _ _ rfl
  rintro v tk₆ rfl
  k_steps
  rename News s.heap _ _ _ => NN
  rename Fr s.heap _ _ _ => FF
  try dsimp only
  exact done_rec (its := i1.filter (inUs us2)) (ys := j1 ++ j2) FF NN (filter_strs hi1) (strs_app hj1 (by assumption)) id
theorem reset_S9 : True := by w_top off; k_with_none; trivial
theorem lines_S9_0 : True := by
  k_with "execs cons" => ((refine' aft_flat ?e ?_; (case e => first | (dsimp only; done) | (dsimp only; exact rfl) | exact rfl); intro _ _ _))
  k_with "execs nil" => (refine wpAny_execs_nil ?_)
  k_with "exec If" => (refine wpAny_If ?_)
  k_with "Post next" => (first | refine aft_end (by with_reducible assumption) ?_ | refine aft_next (by with_reducible assumption) ?_)
  k_with "Post ret" => (refine aft_ret (by with_reducible assumption) ?_)
  k_with "Post brk" => (refine aft_brk (by with_reducible assumption) ?_)
  k_with "Post cont" => (refine aft_cont (by with_reducible assumption) ?_)
  k_with "GenPost ret" => (refine genPost_ret ?_)
  k_with "call" => (((with_reducible show wpAny _ _ (call (Value.type _) _) _ _ _); refine sub_A (by with_reducible assumption) ?_))
  trivial
/-- a plain value and its text -/
noncomputable def Tx (v : Value) (x : Str) : Prop := (v = .none ∧ x = Str.ofString "None") ∨ (∃ n t, v = .int n t ∧ n.natAbs < 10 ∧ x = Str.ofString (toString n)) ∨ ∃ t, v = .str x t
theorem Tx.handed {v : Value} {x : Str} (h : Tx v x) : handedIn v = true := by
  rcases h with ⟨rfl, _⟩ | ⟨n, t, rfl, _⟩ | ⟨t, rfl⟩ <;> rfl
theorem Tx.pl {v : Value} {x : Str} (h : Tx v x) : Pl v := by
  rcases h with ⟨rfl, _⟩ | ⟨n, t, rfl, _⟩ | ⟨t, rfl⟩
  · exact .inl rfl
  · exact .inr (.inl ⟨n, t, rfl⟩)
  · exact .inr (.inr ⟨x, t, rfl⟩)
theorem done_told {u r a : Addr} {x y : Str} {t1 t2 : Tok} {n : Nat} {s : Shared} {h' : Heap} {tk' : Nat} {g' : Array GenState} {L : Addr} {m : Str → Option Value} (F : Fr s.heap L h' m)
    (N : News s.heap L h' [(a, listOf #[.ref u, .ref r, .str x t1, .str y t2] n)]) (hb : AllBare s.gens → AllBare g') :
    DoneF (fun v new => ∃ a t1 t2 n, v = .ref a ∧ new = [(a, listOf #[.ref u, .ref r, .str x t1, .str y t2] n)]) s (.ret (.ref a)) ⟨h', g', s.drawn, tk', s.os⟩ :=
  done_of F N ⟨a, t1, t2, n, rfl, rfl⟩ (fun _ h => h) hb
theorem told_ct (w : World) (e d u r : Addr) (dl rt : Value) (x y : Str) (p1 p2 p3 p4 : Tok) (hx : Tx dl x) (hy : Tx rt y) :
    CtP 2 w 126 [.ref e] (fun h => h.get? e = some (instObj 59 d) ∧ h.get? d = some (dictOf (recEs w.params u r dl rt p1 p2 p3 p4) 4)) fun v new => ∃ a t1 t2 n, v = .ref a ∧ new = [(a, listOf #[.ref u, .ref r, .str x t1, .str y t2] n)] := by
  refine ct_enterP (binds := [(Str.ofString "record", .ref e)]) (by k_is) (by k_is) (by rfl) (locs (by rfl)) ?_
  rintro dp un gd base fr s h₁ tk mean mg mb A L hA hz ⟨g1, g2⟩ hdp hun B X T F N
  have w1 := hx.handed
  have w2 := hy.handed
  k_steps
  refine cut_some (fun v => ∃ t, v = .str x t) ?_ ?_
  · intro Q' hQ
    rcases hx with ⟨rfl, rfl⟩ | ⟨n, t, rfl, hn, rfl⟩ | ⟨t, rfl⟩ <;> k_steps <;> exact hQ _ _ ⟨_, rfl⟩
  rintro v tk₅ ⟨t₅, rfl⟩
  k_steps
  refine cut_some (fun v => ∃ t, v = .str y t) ?_ ?_
  · intro Q' hQ
    rcases hy with ⟨rfl, rfl⟩ | ⟨n, t, rfl, hn, rfl⟩ | ⟨t, rfl⟩ <;> k_steps <;> exact hQ _ _ ⟨_, rfl⟩
  rintro v tk₆ ⟨t₆, rfl⟩
  k_steps
  rename News s.heap _ _ _ => NN
  rename Fr s.heap _ _ _ => FF
  exact done_told FF NN id
end Mine

end

section
open PySem PySem.W PyProof.Rows PySem.Calls
namespace Mine
theorem arr4 {acc : Array Value} {P : Nat → Value → Prop} (h : ItemsOf P acc 4) : ∃ a b c d, acc = #[a, b, c, d] ∧ P 0 a ∧ P 1 b ∧ P 2 c ∧ P 3 d := by
  obtain ⟨hs, hp⟩ := h
  obtain ⟨l⟩ := acc
  obtain ⟨a, b, c, d, rfl⟩ := list_four (l := l) hs
  exact ⟨a, b, c, d, rfl, hp 0 a rfl, hp 1 b rfl, hp 2 c rfl, hp 3 d rfl⟩
theorem sign_lit (i : Nat) (y : Str) {x : Str} {v : Value} (e : (x.cps[i]?.map fun c => (⟨#[c]⟩ : Str)) = some y) (h : SignAt x i v) : ∃ t, v = .str y t := by
  obtain ⟨c, u, hc, rfl⟩ := h
  rw [hc] at e
  have e' : (⟨#[c]⟩ : Str) = y := Option.some.inj e
  exact ⟨u, by rw [e']⟩
section
variable {w : World} {A : Around} {E : Value → Shared → Prop} {s : Shared} {h₀ : Heap} {L : Addr} {m : Str → Option Value} {led : List (Addr × Obj)}
theorem list_abcd {t : Tok} {Q : Value → Shared → Prop} (F : Fr h₀ L s.heap m) (N : News h₀ L s.heap led) (hh : A.handled = none)
    (h : ∀ h' tk l t1 t2 t3 t4 c, Fr h₀ L h' m → News h₀ L h' ((l, listOf #[.str (Str.ofString "a") t1, .str (Str.ofString "b") t2, .str (Str.ofString "c") t3, .str (Str.ofString "d") t4] c) :: led) → (∀ p ∈ led, p.1 < l) → Q (.ref l) { s with heap := h', toks := tk }) :
    wpAny (model PR w) A (call (.type "list") [.str (Str.ofString "abcd") t]) Q E s := by
  refine call_list_str hh _ t (fun h' tk acc c hk hl hi => ?_)
  obtain ⟨a, b, c', d, rfl, h1, h2, h3, h4⟩ := arr4 (show ItemsOf _ acc 4 from hi)
  obtain ⟨t1, rfl⟩ := sign_lit 0 (Str.ofString "a") rfl h1
  obtain ⟨t2, rfl⟩ := sign_lit 1 (Str.ofString "b") rfl h2
  obtain ⟨t3, rfl⟩ := sign_lit 2 (Str.ofString "c") rfl h3
  obtain ⟨t4, rfl⟩ := sign_lit 3 (Str.ofString "d") rfl h4
  refine h h' tk _ t1 t2 t3 t4 c (after_F F hk) (fun p hp => ?_) fun p hp => Heap.lt_size (N p hp).1
  rcases List.mem_cons.mp hp with rfl | hp
  · refine ⟨hl, ?_, ?_⟩
    · obtain ⟨oL, _, _, hL, _⟩ := F.ns
      exact Nat.ne_of_gt (Heap.lt_size hL)
    · cases q : h₀.get? s.heap.objs.size with
      | none => rfl
      | some o => have := F.keep _ _ q; rw [none_size] at this; cases this
  · exact ⟨hk _ _ (N p hp).1, (N p hp).2⟩
end
end Mine

end

section
open PySem PySem.W PyProof.Rows PySem.Calls PyProof.V PySem.Spec PySem.SeqAt
namespace Mine
theorem news_sub {h₀ h : Heap} {L : Addr} {a b : List (Addr × Obj)} (N : News h₀ L h a) (s : ∀ p ∈ b, p ∈ a) : News h₀ L h b := fun p hp => N p (s p hp)
theorem news_tail {h₀ h : Heap} {L : Addr} {p : Addr × Obj} {a : List (Addr × Obj)} (N : News h₀ L h (p :: a)) : News h₀ L h a := fun q hq => N q (.tail _ hq)
theorem news_swap {h₀ h : Heap} {L : Addr} {a b : List (Addr × Obj)} (N : News h₀ L h (a ++ b)) : News h₀ L h (b ++ a) := fun p hp => N p (List.mem_append.mpr (List.mem_append.mp hp).symm)
theorem news_push {h₀ h : Heap} {L : Addr} {m : Str → Option Value} {led : List (Addr × Obj)} {o : Obj} (F : Fr h₀ L h m) (N : News h₀ L h led) (ho : o.isFreed = false) : News h₀ L (h.push o) ((h.objs.size, o) :: led) := fun p hp => by
  rcases List.mem_cons.mp hp with rfl | hp
  · refine ⟨Heap.get?_push_size _ ho, ?_, ?_⟩
    · obtain ⟨oL, _, _, hL, _⟩ := F.ns
      exact Nat.ne_of_gt (Heap.lt_size hL)
    · cases q : h₀.get? h.objs.size with
      | none => rfl
      | some o => have := F.keep _ _ q; rw [none_size] at this; cases this
  · exact ⟨Heap.get?_push_of_some _ (N p hp).1, (N p hp).2⟩
section
variable {w : World} {A : Around} {E : Value → Shared → Prop} {s : Shared} {h₀ : Heap} {L : Addr} {m : Str → Option Value} {led : List (Addr × Obj)}
theorem slice_to_step {value slice : PySem.Expr} {l : Addr} {vs : List Value} {n c : Nat} {t : Tok} {ci : Int} {Q : Value → Shared → Prop} (F : Fr h₀ L s.heap m) (N : News h₀ L s.heap led) (hl : s.heap.get? l = some (listOf vs.toArray n)) (hci : ci = (c : Int)) (hv : vs.length < 100)
    (h : ∀ h' r, Fr h₀ L h' m → News h₀ L h' ((r, listOf (vs.take c).toArray 0) :: led) → (∀ p ∈ led, p.1 < r) → Q (.ref r) { s with heap := h' })
    (hs : subscripted slice false (.ref l) (.ref s.heap.objs.size) = operate [.ref s.heap.objs.size, .ref l] (getItem (.ref l) (.ref s.heap.objs.size)) := by with_unfolding_all rfl)
    (ht : ∀ r, letTemporaryGo value (.ref l) r = pure () := by intro _; with_unfolding_all rfl) :
    wpAny (model PR w) A (subscriptTail value slice (.ref l) (.ref s.heap.objs.size)) Q E { s with heap := s.heap.push { cls := .type "slice", data := .fields #[.none, .int ci t, .none] } } := by
  subst hci
  refine slice_listK ⟨_, hl, rfl, _, rfl⟩ .none (.int _ _) ?_ hs ht (by rw [sizeLine_eq]; simp; omega)
  rw [slicePick_upto']
  have F₁ := after_F F (ext_push (o := { cls := .type "slice", data := .fields #[.none, .int (c : Int) t, .none] }))
  have N₁ := after_N N (ext_push (o := { cls := .type "slice", data := .fields #[.none, .int (c : Int) t, .none] }))
  have hz : s.heap.objs.size + 1 = (s.heap.push { cls := .type "slice", data := .fields #[.none, .int (c : Int) t, .none] }).objs.size := by rw [Heap.size_push]
  rw [hz]
  exact h _ _ (after_F F₁ ext_push) (news_push F₁ N₁ rfl) fun p hp => Heap.lt_size (N₁ p hp).1

theorem readsAll_strs {h : Heap} : ∀ {vs : List Value} {ns : List Str}, StrsAre vs ns → ReadsAll h vs (ns.map PyData.str) []
  | _, _, .nil => .nil
  | _, _, .cons k t r => by
    have := ReadsAll.cons (Reads.str (h := h) k t) (readsAll_strs (h := h) r)
    simpa using this
theorem reads_strs {h : Heap} {a : Addr} {vs : List Value} {ns : List Str} {n : Nat} (hl : h.get? a = some (listOf vs.toArray n)) (hi : StrsAre vs ns) : Reads h (.ref a) (.list (ns.map PyData.str)) [a] :=
  Reads.list hl rfl rfl (by simpa using readsAll_strs hi)
noncomputable def Oks (ns : List Str) : Prop := ∀ x ∈ ns, PyData.strOk x = true
theorem canLayAll0_strs : ∀ ns : List Str, Oks ns → PyData.canLayAll0 (ns.map PyData.str) = true
  | [], _ => by simp [PyData.canLayAll0]
  | n :: r, h => by simp [PyData.canLayAll0, PyData.canLay0, canLayAll0_strs r (fun x hx => h x (.tail _ hx)), h n (.head _)]
theorem depthAll_strs : ∀ ns : List Str, PyData.depthAll (ns.map PyData.str) ≤ 1
  | [] => by simp [PyData.depthAll]
  | n :: r => by
    have := depthAll_strs r
    simp only [List.map_cons, PyData.depthAll, PyData.depth]
    omega
noncomputable abbrev toldD (us rs : List Str) (x y : Str) : PyData := .list [.list (us.map PyData.str), .list (rs.map PyData.str), .str x, .str y]
theorem reads_told {h : Heap} {a u r : Addr} {us rs : List Str} {vu vr : List Value} {x y : Str} {t1 t2 : Tok} {n n1 n2 : Nat} (ha : h.get? a = some (listOf #[.ref u, .ref r, .str x t1, .str y t2] n)) (hu : h.get? u = some (listOf vu.toArray n1)) (hr : h.get? r = some (listOf vr.toArray n2)) (su : StrsAre vu us) (sr : StrsAre vr rs) :
    ∃ as, Reads h (.ref a) (toldD us rs x y) as :=
  ⟨_, Reads.list ha rfl rfl (.cons (reads_strs hu su) (.cons (reads_strs hr sr) (.cons (.str x t1) (.cons (.str y t2) .nil))))⟩
theorem shaped_told {us rs : List Str} {x y : Str} (k1 : Oks us) (k2 : Oks rs) (k3 : PyData.strOk x = true) (k4 : PyData.strOk y = true) : shaped (toldD us rs x y) = true := by
  have h1 := depthAll_strs us
  have h2 := depthAll_strs rs
  show (PyData.canLay0 _ && decide (PyData.depth _ ≤ 64)) = true
  rw [Bool.and_eq_true]
  refine ⟨by simp only [PyData.canLay0, PyData.canLayAll0, canLayAll0_strs us k1, canLayAll0_strs rs k2, k3, k4, Bool.and_self], decide_eq_true ?_⟩
  simp only [PyData.depth, PyData.depthAll]
  omega
theorem ne_told {a b : Addr} {us rs : List Str} {x y : Str} {as bs : List Addr} {Q : Value → Shared → Prop} (ra : Reads s.heap (.ref a) (toldD us rs x y) as) (rb : Reads s.heap (.ref b) (toldD us rs x y) bs) (k1 : Oks us) (k2 : Oks rs) (k3 : PyData.strOk x = true) (k4 : PyData.strOk y = true) (hu : A.units + 64 < cLine) (h : Q (.bool false) s) :
    wpAny (model PR w) A (compareOp .NotEq (.ref a) (.ref b)) Q E s := by
  refine compareNe_shaped ra rb (shaped_told k1 k2 k3 k4) (shaped_told k1 k2 k3 k4) hu ?_
  rw [eqv_refl _ (canLay_of_shaped (shaped_told k1 k2 k3 k4))]
  exact h
end
end Mine

end

section
open PySem PySem.W PyProof.Rows PySem.Calls
namespace Mine
theorem reset_M1 : True := by w_top off; k_with_none; trivial
theorem lines_M1_0 : True := by
  k_with "subscriptTail" => (((with_reducible show wpAny _ _ (subscriptTail (PySem.Expr.List _ _) _ (Value.ref _) (Value.int _ _)) _ _ _); refine held ?_))
  k_with "execs cons" => ((refine' aft_flat ?e ?_; (case e => first | (dsimp only; done) | (dsimp only; exact rfl) | exact rfl); intro _ _ _))
  k_with "execs nil" => (refine wpAny_execs_nil ?_)
  k_with "exec If" => (refine wpAny_If ?_)
  k_with "Post next" => (first | refine aft_end (by with_reducible assumption) ?_ | refine aft_next (by with_reducible assumption) ?_)
  k_with "Post ret" => (refine aft_ret (by with_reducible assumption) ?_)
  k_with "Post brk" => (refine aft_brk (by with_reducible assumption) ?_)
  k_with "Post cont" => (refine aft_cont (by with_reducible assumption) ?_)
  k_with "GenPost ret" => (refine genPost_ret ?_)
  k_with "call" => (((with_reducible show wpAny _ _ (call (Value.type _) _) _ _ _); refine sub_A (by with_reducible assumption) ?_))
  trivial
noncomputable def meetLoop : List Stmt := match (fnBody 14).drop 3 with
  | .For _ _ b _ _ :: _ => b
  | _ => []
noncomputable def stAt (l : List Stmt) (i : Nat) : Stmt := match l.drop i with
  | st :: _ => st
  | [] => .Pass default
noncomputable abbrev meetEnv (L : Addr) : Env := envOf (Str.ofString "_law_meet") (fnScope 14) L 133 (.ref 132)

/-- behind an assignment: the name holds v, new objects are on the ledger -/
inductive StA (h₀ : Heap) (L : Addr) (m : Str → Option Value) (led : List (Addr × Obj)) (s : Shared) (nm : Str) (P : Value → List (Addr × Obj) → Prop) : Flow → Shared → Prop
  | mk (v : Value) (new : List (Addr × Obj)) (h' : Heap) (tk' : Nat) (g' : Array GenState) (F : Fr h₀ L h' (fun y => if y = nm then some v else m y)) (N : News h₀ L h' (new ++ led)) (b : AllBare s.gens → AllBare g') (p : P v new) : StA h₀ L m led s nm P .next ⟨h', g', s.drawn, tk', s.os⟩
inductive StI (h₀ : Heap) (L : Addr) (m : Str → Option Value) (led : List (Addr × Obj)) (s : Shared) : Flow → Shared → Prop
  | mk (h' : Heap) (tk' : Nat) (g' : Array GenState) (F : Fr h₀ L h' m) (N : News h₀ L h' led) (b : AllBare s.gens → AllBare g') : StI h₀ L m led s .next ⟨h', g', s.drawn, tk', s.os⟩
theorem st_hide {M : Model} {A : Around} {E : Value → Shared → Prop} {s : Shared} {env : Env} {st : Stmt} {Q : Flow → Shared → Prop}
    (h : ∀ Q' : Flow → Shared → Prop, (∀ f s', Q f s' → Q' f s') → wpAny M A (exec st env) (Post Q') E s) : wpAny M A (exec st env) Q E s := h Q fun _ _ x => x

section
variable {M : Model} {A : Around} {E : Value → Shared → Prop} {s : Shared} {h₀ : Heap} {L : Addr} {m : Str → Option Value} {led : List (Addr × Obj)} {env : Env} {st : Stmt} {rest all : List Stmt} {Q : Flow → Shared → Prop} {nm : Str} {P : Value → List (Addr × Obj) → Prop}
theorem stA_seq (e : all = st :: rest) (h : wpAny M A (exec st env) (StA h₀ L m led s nm P) E s)
    (k : ∀ v new h' tk' g', P v new → Fr h₀ L h' (fun y => if y = nm then some v else m y) → News h₀ L h' (new ++ led) → (AllBare s.gens → AllBare g') → wpAny M A (execs rest env) Q E ⟨h', g', s.drawn, tk', s.os⟩) :
    wpAny M A (execs all env) Q E s := by
  rw [e]
  refine wpAny_execs_cons (wpAny_mono h (fun f s' hf => ?_) fun _ _ x => x)
  obtain ⟨v, new, h', tk', g', F, N, b, p⟩ := hf
  exact k v new h' tk' g' p F N b
theorem stI_seq (e : all = st :: rest) (h : wpAny M A (exec st env) (StI h₀ L m led s) E s)
    (k : ∀ h' tk' g', Fr h₀ L h' m → News h₀ L h' led → (AllBare s.gens → AllBare g') → wpAny M A (execs rest env) Q E ⟨h', g', s.drawn, tk', s.os⟩) :
    wpAny M A (execs all env) Q E s := by
  rw [e]
  refine wpAny_execs_cons (wpAny_mono h (fun f s' hf => ?_) fun _ _ x => x)
  obtain ⟨h', tk', g', F, N, b⟩ := hf
  exact k h' tk' g' F N b
end
/-- one of a list's four items, at an open place -/
theorem item4 {w : World} {A : Around} {E : Value → Shared → Prop} {s : Shared} {h₀ : Heap} {L l : Addr} {a b c d : Value} {n k : Nat} {u : Tok} {led : List (Addr × Obj)} {value slice : PySem.Expr} {Q : Value → Shared → Prop} (P : Nat → Value → Prop)
    (N : News h₀ L s.heap ((l, listOf #[a, b, c, d] n) :: led)) (hk : k < 4) (p0 : P 0 a) (p1 : P 1 b) (p2 : P 2 c) (p3 : P 3 d) (h : ∀ v, P k v → Q v s)
    (hs : subscripted slice false (.ref l) (.int (k : Int) u) = operate [.ref l, .int (k : Int) u] (getItem (.ref l) (.int (k : Int) u)) := by with_unfolding_all rfl) :
    wpAny (model PR w) A (subscriptTail value slice (.ref l) (.int (k : Int) u)) Q E s := by
  have hl : s.heap.IsList l #[a, b, c, d] := ⟨_, (N _ (.head _)).1, rfl, n, rfl⟩
  have go : ∀ v, #[a, b, c, d][(k : Int).toNat]? = some v → P k v → wpAny (model PR w) A (subscriptTail value slice (.ref l) (.int (k : Int) u)) Q E s := fun v hv hP =>
    tail_any hl.typeIs slot_list_getitem.lookup (wpAny_getItem_list hl (by omega) (by omega) hv (h v hP)) hs
  have hc := lt4 hk
  rcases hc with rfl | rfl | rfl | rfl
  · exact go _ rfl p0
  · exact go _ rfl p1
  · exact go _ rfl p2
  · exact go _ rfl p3
/-- plain values: None, a small int, a text -/
inductive PV where
  | none | int (n : Int) | str (x : Str)
noncomputable def PV.is : PV → Value → Prop
  | .none, v => v = .none
  | .int n, v => n.natAbs < 10 ∧ ∃ t, v = .int n t
  | .str x, v => ∃ t, v = .str x t
noncomputable def PV.txt : PV → Str
  | .none => Str.ofString "None"
  | .int n => Str.ofString (toString n)
  | .str x => x
noncomputable def PV.pick : PV → PV → PV
  | a, .none => a
  | _, b => b
theorem PV.is.tx {p : PV} {v : Value} (h : p.is v) : Tx v p.txt := by
  cases p with
  | none => exact .inl ⟨h, rfl⟩
  | int n => exact .inr (.inl (let ⟨t, e⟩ := h.2; ⟨n, t, e, h.1, rfl⟩))
  | str x => exact .inr (.inr h)
theorem PV.is.pick {p q : PV} {v u : Value} (h : p.is v) (g : q.is u) : (p.pick q).is (Mine.pick v u) := by
  cases q with
  | none => have g' : u = .none := g; subst g'; exact h
  | int n => obtain ⟨g1, t, rfl⟩ := g; exact ⟨g1, t, rfl⟩
  | str x => obtain ⟨t, rfl⟩ := g; exact ⟨t, rfl⟩
noncomputable def pvStr (s : String) : PV := .str (Str.ofString s)
noncomputable def dl1 : Nat → PV | 0 => .int 7 | 1 => .int 7 | _ => .none
noncomputable def dl2 : Nat → PV | 0 => .int 0 | 2 => .int 5 | _ => .none
noncomputable def rt1 : Nat → PV | 0 => pvStr "p" | 2 => pvStr "p" | _ => .none
noncomputable def rt2 : Nat → PV | 1 => .int 0 | 2 => pvStr "q" | _ => .none

section
variable {w : World} {dp un : Nat} {gd : Option (List Code)} {base : Heap} {fr : List Env} {A : Around} {h₀ : Heap} {L : Addr} {s : Shared} {mean : ExcName → Option Value} {mg mb : Str → Option Value}
  (hAr : A = Around.deeper ⟨none, dp, some fr, gd, un⟩ (meetEnv L)) (hdp : dp + 8 < recursionLimit) (hun : un + 20 * 8 + 40 < cLine) (Bw : Below ⟨none, dp, some fr, gd, un⟩ base fr h₀) (X : (hd.heap_39 w.params).In h₀) (T : Top hd.view_39 (looseW hd.view_39 []) mean mg mb h₀)
  {m : Str → Option Value} {led : List (Addr × Obj)} {k : Nat} {ti : Tok} (hk : k < 4)
include hAr hdp hun Bw X T hk
theorem meet_first {a : List Nat} {ta : Tok} (hla : a.length < 100) {rl : Addr} {vl : List Value} {nl : Nat} {ul : List Str}
    (hl : StrsAre vl ul) (h2 : vl.length < 100) (ek : m (Str.ofString "k") = some (.int (k : Nat) ti)) (el : m (Str.ofString "longer") = some (.ref rl)) (eo : m (Str.ofString "one") = some (.str (S a) ta))
    (F : Fr h₀ L s.heap m) (N : News h₀ L s.heap led) (hm : (rl, listOf vl.toArray nl) ∈ led) :
    wpAny (model PR w) A (exec (stAt meetLoop 3) (meetEnv L)) (StA h₀ L m led s (Str.ofString "first") fun v new => ∃ x dl rt, v = .ref x ∧ (dl1 k).is dl ∧ (rt1 k).is rt ∧ RecObjs w x ul (signs (S a)) dl rt new) (fun _ _ => False) s := by
  have hd3 : dp + (3 + 1) < recursionLimit := by omega
  have hu3 : un + 20 * 3 + 43 < cLine := by omega
  have hla' : (S a).length < 100 := by rw [S_len]; exact hla
  have ia : s.heap.IsList rl vl.toArray := ⟨_, (N _ hm).1, rfl, _, rfl⟩
  obtain ⟨h, gens, dr, tk, os⟩ := s
  have F₁ := Fr.view (m' := fun y => if y = Str.ofString "k" then some (.int (k : Nat) ti) else if y = Str.ofString "longer" then some (.ref rl) else if y = Str.ofString "one" then some (.str (S a) ta) else m y) F (fun y => by rw [put_eq eo, put_eq el, put_eq ek])
  clear F
  refine st_hide fun Q' hQ' => ?_
  unfold stAt meetLoop fnBody
  dsimp only [stm, PySem.Challenge.pw_rs0061_01, List.drop]
  k_steps
  rename News _ _ _ _ => N₂
  refine unheld (item4 (fun k v => (dl1 k).is v) N₂ hk (by first | exact ⟨by decide, _, rfl⟩ | exact ⟨_, rfl⟩ | exact rfl) (by first | exact ⟨by decide, _, rfl⟩ | exact ⟨_, rfl⟩ | exact rfl) (by first | exact ⟨by decide, _, rfl⟩ | exact ⟨_, rfl⟩ | exact rfl) (by first | exact ⟨by decide, _, rfl⟩ | exact ⟨_, rfl⟩ | exact rfl) fun dl hdl => ?_)
  k_steps
  rename News _ _ _ _ => N₃
  refine unheld (item4 (fun k v => (rt1 k).is v) N₃ hk (by first | exact ⟨by decide, _, rfl⟩ | exact ⟨_, rfl⟩ | exact rfl) (by first | exact ⟨by decide, _, rfl⟩ | exact ⟨_, rfl⟩ | exact rfl) (by first | exact ⟨by decide, _, rfl⟩ | exact ⟨_, rfl⟩ | exact rfl) (by first | exact ⟨by decide, _, rfl⟩ | exact ⟨_, rfl⟩ | exact rfl) fun rt hrt => ?_)
  k_steps
  rename Fr _ _ _ _ => F₂
  rename News _ _ _ _ => N₂
  refine use_ctP hAr (record_ct w rl a ta vl ul _ _ hla h2 hl) (show Heap.IsList _ _ _ from ⟨_, (N₂ _ (.tail _ (.tail _ hm))).1, rfl, _, rfl⟩) Bw F₂ X N₂ T rfl rfl hd3 hu3 ?_
  rintro v new h₃ tk₃ g₃ ⟨x, rfl, hR⟩ F₃ N₃ - hb₃
  clear F₂ N₂
  try dsimp only
  k_steps
  rename Fr _ _ _ _ => F₄
  rename News _ _ _ _ => N₄
  exact hQ' _ _ ⟨_, new, _, _, _, Fr.view F₄ (fun y => by rw [put_eq eo, put_eq el, put_eq ek]), news_sub (news_tail (news_tail N₄)) (fun p hp => List.mem_append.mpr (List.mem_append.mp hp).symm), hb₃, x, _, _, rfl, hdl, hrt, hR⟩
end
end Mine

end

section
open PySem PySem.W PyProof.Rows PySem.Calls
namespace Mine
theorem reset_M2 : True := by w_top off; k_with_none; trivial
theorem lines_M2_0 : True := by
  k_with "subscriptTail" => (((with_reducible show wpAny _ _ (subscriptTail (PySem.Expr.List _ _) _ (Value.ref _) (Value.int _ _)) _ _ _); refine held ?_))
  k_with "execs cons" => ((refine' aft_flat ?e ?_; (case e => first | (dsimp only; done) | (dsimp only; exact rfl) | exact rfl); intro _ _ _))
  k_with "execs nil" => (refine wpAny_execs_nil ?_)
  k_with "exec If" => (refine wpAny_If ?_)
  k_with "Post next" => (first | refine aft_end (by with_reducible assumption) ?_ | refine aft_next (by with_reducible assumption) ?_)
  k_with "Post ret" => (refine aft_ret (by with_reducible assumption) ?_)
  k_with "Post brk" => (refine aft_brk (by with_reducible assumption) ?_)
  k_with "Post cont" => (refine aft_cont (by with_reducible assumption) ?_)
  k_with "GenPost ret" => (refine genPost_ret ?_)
  k_with "call" => (((with_reducible show wpAny _ _ (call (Value.type _) _) _ _ _); refine sub_A (by with_reducible assumption) ?_))
  trivial
theorem signs_length (x : Str) : (signs x).length = x.length := by
  simp [signs, Str.length]
theorem signs_app (x y : Str) : signs (x ++ y) = signs x ++ signs y := by
  show List.map _ (x.cps ++ y.cps).toList = _
  rw [Array.toList_append, List.map_append]
  rfl
theorem PV.is.pl {p : PV} {v : Value} (h : p.is v) : Pl v := h.tx.pl
/-- the objects of a record, among those of a ledger -/
inductive RecIn (w : World) (x : Addr) (us rs : List Str) (p q : PV) (led : List (Addr × Obj)) : Prop
  | mk (dl rt : Value) (dx u r : Addr) (t1 t2 t3 t4 : Tok) (its ys : List Value) (n1 n2 : Nat) (hp : p.is dl) (hq : q.is rt) (h1 : StrsAre its us) (h2 : StrsAre ys rs) (m1 : (u, listOf (List.toArray its) n1) ∈ led) (m2 : (r, listOf (List.toArray ys) n2) ∈ led) (m3 : (x, instObj 59 dx) ∈ led) (m4 : (dx, dictOf (recEs w.params u r dl rt t1 t2 t3 t4) 4) ∈ led)
theorem RecIn.of {w : World} {x : Addr} {us rs : List Str} {p q : PV} {dl rt : Value} {new led : List (Addr × Obj)} (hp : p.is dl) (hq : q.is rt) (h : RecObjs w x us rs dl rt new) (hn : ∀ z ∈ new, z ∈ led) : RecIn w x us rs p q led := by
  obtain ⟨dx, u, r, t1, t2, t3, t4, its, ys, n1, n2, rfl, h1, h2⟩ := h
  exact ⟨dl, rt, dx, u, r, t1, t2, t3, t4, its, ys, n1, n2, hp, hq, h1, h2, hn _ (.head _), hn _ (.tail _ (.head _)), hn _ (.tail _ (.tail _ (.head _))), hn _ (.tail _ (.tail _ (.tail _ (.head _))))⟩
theorem RecIn.mono {w : World} {x : Addr} {us rs : List Str} {p q : PV} {led led' : List (Addr × Obj)} (h : RecIn w x us rs p q led) (hn : ∀ z ∈ led, z ∈ led') : RecIn w x us rs p q led' := by
  obtain ⟨dl, rt, dx, u, r, t1, t2, t3, t4, its, ys, n1, n2, hp, hq, h1, h2, m1, m2, m3, m4⟩ := h
  exact ⟨dl, rt, dx, u, r, t1, t2, t3, t4, its, ys, n1, n2, hp, hq, h1, h2, hn _ m1, hn _ m2, hn _ m3, hn _ m4⟩
section
variable {w : World} {dp un : Nat} {gd : Option (List Code)} {base : Heap} {fr : List Env} {A : Around} {h₀ : Heap} {L : Addr} {s : Shared} {mean : ExcName → Option Value} {mg mb : Str → Option Value}
  (hAr : A = Around.deeper ⟨none, dp, some fr, gd, un⟩ (meetEnv L)) (hdp : dp + 8 < recursionLimit) (hun : un + 20 * 8 + 40 < cLine) (Bw : Below ⟨none, dp, some fr, gd, un⟩ base fr h₀) (X : (hd.heap_39 w.params).In h₀) (T : Top hd.view_39 (looseW hd.view_39 []) mean mg mb h₀)
  {m : Str → Option Value} {led : List (Addr × Obj)}
include hAr hdp hun Bw X T
theorem meet_second {k : Nat} {ti : Tok} (hk : k < 4) {a : List Nat} {ta : Tok} (hla : a.length < 100) {rl : Addr} {vl : List Value} {nl : Nat} {ul : List Str}
    (hl : StrsAre vl ul) (h2 : vl.length < 100) (ek : m (Str.ofString "k") = some (.int (k : Nat) ti)) (el : m (Str.ofString "theirs") = some (.ref rl)) (eo : m (Str.ofString "two") = some (.str (S a) ta))
    (F : Fr h₀ L s.heap m) (N : News h₀ L s.heap led) (hm : (rl, listOf vl.toArray nl) ∈ led) :
    wpAny (model PR w) A (exec (stAt meetLoop 4) (meetEnv L)) (StA h₀ L m led s (Str.ofString "second") fun v new => ∃ x dl rt, v = .ref x ∧ (dl2 k).is dl ∧ (rt2 k).is rt ∧ RecObjs w x ul (signs (S a)) dl rt new) (fun _ _ => False) s := by
  have hd3 : dp + (3 + 1) < recursionLimit := by omega
  have hu3 : un + 20 * 3 + 43 < cLine := by omega
  have hla' : (S a).length < 100 := by rw [S_len]; exact hla
  have ia : s.heap.IsList rl vl.toArray := ⟨_, (N _ hm).1, rfl, _, rfl⟩
  obtain ⟨h, gens, dr, tk, os⟩ := s
  have F₁ := Fr.view (m' := fun y => if y = Str.ofString "k" then some (.int (k : Nat) ti) else if y = Str.ofString "theirs" then some (.ref rl) else if y = Str.ofString "two" then some (.str (S a) ta) else m y) F (fun y => by rw [put_eq eo, put_eq el, put_eq ek])
  clear F
  refine st_hide fun Q' hQ' => ?_
  unfold stAt meetLoop fnBody
  dsimp only [stm, PySem.Challenge.pw_rs0061_01, List.drop]
  k_steps
  rename News _ _ _ _ => N₂
  refine unheld (item4 (fun k v => (dl2 k).is v) N₂ hk (by first | exact ⟨by decide, _, rfl⟩ | exact ⟨_, rfl⟩ | exact rfl) (by first | exact ⟨by decide, _, rfl⟩ | exact ⟨_, rfl⟩ | exact rfl) (by first | exact ⟨by decide, _, rfl⟩ | exact ⟨_, rfl⟩ | exact rfl) (by first | exact ⟨by decide, _, rfl⟩ | exact ⟨_, rfl⟩ | exact rfl) fun dl hdl => ?_)
  k_steps
  rename News _ _ _ _ => N₃
  refine unheld (item4 (fun k v => (rt2 k).is v) N₃ hk (by first | exact ⟨by decide, _, rfl⟩ | exact ⟨_, rfl⟩ | exact rfl) (by first | exact ⟨by decide, _, rfl⟩ | exact ⟨_, rfl⟩ | exact rfl) (by first | exact ⟨by decide, _, rfl⟩ | exact ⟨_, rfl⟩ | exact rfl) (by first | exact ⟨by decide, _, rfl⟩ | exact ⟨_, rfl⟩ | exact rfl) fun rt hrt => ?_)
  k_steps
  rename Fr _ _ _ _ => F₂
  rename News _ _ _ _ => N₂
  refine use_ctP hAr (record_ct w rl a ta vl ul _ _ hla h2 hl) (show Heap.IsList _ _ _ from ⟨_, (N₂ _ (.tail _ (.tail _ hm))).1, rfl, _, rfl⟩) Bw F₂ X N₂ T rfl rfl hd3 hu3 ?_
  rintro v new h₃ tk₃ g₃ ⟨x, rfl, hR⟩ F₃ N₃ - hb₃
  clear F₂ N₂
  try dsimp only
  k_steps
  rename Fr _ _ _ _ => F₄
  rename News _ _ _ _ => N₄
  exact hQ' _ _ ⟨_, new, _, _, _, Fr.view F₄ (fun y => by rw [put_eq eo, put_eq el, put_eq ek]), news_sub (news_tail (news_tail N₄)) (fun p hp => List.mem_append.mpr (List.mem_append.mp hp).symm), hb₃, x, _, _, rfl, hdl, hrt, hR⟩

theorem meet_merged {x1 x2 : Addr} {u1 r1 u2 r2 : List Str} {p1 q1 p2 q2 : PV} (e1 : m (Str.ofString "first") = some (.ref x1)) (e2 : m (Str.ofString "second") = some (.ref x2))
    (R1 : RecIn w x1 u1 r1 p1 q1 led) (R2 : RecIn w x2 u2 r2 p2 q2 led) (l1 : u1.length < 100) (l2 : u2.length < 100) (l3 : r1.length < 100) (l4 : r2.length < 100)
    (F : Fr h₀ L s.heap m) (N : News h₀ L s.heap led) :
    wpAny (model PR w) A (exec (stAt meetLoop 5) (meetEnv L)) (StA h₀ L m led s (Str.ofString "merged") fun v new => ∃ x, v = .ref x ∧ RecIn w x (u1.filter (u2.contains ·)) (r1 ++ r2) (p1.pick p2) (q1.pick q2) new) (fun _ _ => False) s := by
  have hd3 : dp + (3 + 1) < recursionLimit := by omega
  have hu3 : un + 20 * 3 + 43 < cLine := by omega
  obtain ⟨h, gens, dr, tk, os⟩ := s
  have F₁ := Fr.view (m' := fun y => if y = Str.ofString "first" then some (.ref x1) else if y = Str.ofString "second" then some (.ref x2) else m y) F (fun y => by rw [put_eq e2, put_eq e1])
  obtain ⟨dlA, rtA, dxA, uA, rA, a1, a2, a3, a4, itA, yA, nA, nA', hpA, hqA, hA1, hA2, mA1, mA2, mA3, mA4⟩ := R1
  obtain ⟨dlB, rtB, dxB, uB, rB, b1, b2, b3, b4, itB, yB, nB, nB', hpB, hqB, hB1, hB2, mB1, mB2, mB3, mB4⟩ := R2
  have ia : ∀ {x : Addr} {vs : List Value} {c : Nat}, (x, listOf vs.toArray c) ∈ led → h.IsList x vs.toArray := fun e => ⟨_, (N _ e).1, rfl, _, rfl⟩
  clear F
  refine st_hide fun Q' hQ' => ?_
  unfold stAt meetLoop fnBody
  dsimp only [stm, PySem.Challenge.pw_rs0061_01, List.drop]
  k_steps
  refine use_ctP hAr (merge_ct w x1 x2 dxA uA rA dxB uB rB _ _ _ _ a1 a2 a3 a4 b1 b2 b3 b4 itA yA itB yB u1 r1 u2 r2 hA1 hA2 hB1 hB2 l1 l2 (by rw [strs_length hA2]; exact l3) (by rw [strs_length hB2]; exact l4) hpA.pl hpB.pl hqA.pl hqB.pl)
    ⟨(N _ mA3).1, (N _ mA4).1, ia mA1, ia mA2, (N _ mB3).1, (N _ mB4).1, ia mB1, ia mB2⟩ Bw F₁ X N T rfl rfl hd3 hu3 ?_
  rintro v new h₃ tk₃ g₃ ⟨x, rfl, hR⟩ F₃ N₃ - hb₃
  clear F₁ N
  try dsimp only
  k_steps
  rename Fr h₀ _ _ _ => F₄
  rename News h₀ _ _ _ => N₄
  exact hQ' _ _ ⟨_, new, _, _, _, Fr.view F₄ (fun y => by rw [put_eq e2, put_eq e1]), news_sub N₄ (fun p hp => List.mem_append.mpr (List.mem_append.mp hp).symm), hb₃, x, rfl, RecIn.of (hpA.pick hpB) (hqA.pick hqB) hR fun _ h => h⟩

theorem meet_size {x3 : Addr} {u3 r3 : List Str} {p3 q3 : PV} (e3 : m (Str.ofString "merged") = some (.ref x3)) (R3 : RecIn w x3 u3 r3 p3 q3 led) (c : Nat) (hc : u3.length = c + 1) (hc9 : c < 100)
    (F : Fr h₀ L s.heap m) (N : News h₀ L s.heap led) :
    wpAny (model PR w) A (exec (stAt meetLoop 6) (meetEnv L)) (StA h₀ L m led s (Str.ofString "size") fun v new => (∃ t, v = .int (c : Nat) t) ∧ new = []) (fun _ _ => False) s := by
  obtain ⟨h, gens, dr, tk, os⟩ := s
  have F₁ := Fr.view (m' := fun y => if y = Str.ofString "merged" then some (.ref x3) else m y) F (fun y => by rw [put_eq e3])
  obtain ⟨dlA, rtA, dxA, uA, rA, a1, a2, a3, a4, itA, yA, nA, nA', hpA, hqA, hA1, hA2, mA1, mA2, mA3, mA4⟩ := R3
  have N₁ : News h₀ L h ((uA, listOf itA.toArray nA) :: (rA, listOf yA.toArray nA') :: (x3, instObj 59 dxA) :: (dxA, dictOf (recEs w.params uA rA dlA rtA a1 a2 a3 a4) 4) :: led) := by
    intro p hp
    rcases List.mem_cons.mp hp with rfl | hp
    · exact N _ mA1
    rcases List.mem_cons.mp hp with rfl | hp
    · exact N _ mA2
    rcases List.mem_cons.mp hp with rfl | hp
    · exact N _ mA3
    rcases List.mem_cons.mp hp with rfl | hp
    · exact N _ mA4
    · exact N _ hp
  have hsz3 : ((itA.toArray.size : Nat) : Int) = (c : Int) + 1 := by rw [List.size_toArray, strs_length hA1, hc]; omega
  have hsz4 : ((itA.toArray.size : Nat) : Int) < 2 ^ 63 := by rw [hsz3]; omega
  have hcc : ((u3.length : Nat) : Int) - 1 = (c : Int) := by rw [hc]; omega
  clear F N
  refine st_hide fun Q' hQ' => ?_
  unfold stAt meetLoop fnBody
  dsimp only [stm, PySem.Challenge.pw_rs0061_01, List.drop]
  k_steps
  rename Fr h₀ _ _ _ => F₄
  rename News h₀ _ _ _ => N₄
  rw [hcc] at F₄
  exact hQ' _ _ ⟨_, [], _, _, _, Fr.view F₄ (fun y => by rw [put_eq e3]), fun p hp => N₄ p (.tail _ (.tail _ (.tail _ (.tail _ hp)))), id, ⟨_, rfl⟩, rfl⟩
end
end Mine

end

section
open PySem PySem.W PyProof.Rows PySem.Calls
namespace Mine
theorem reset_M3 : True := by w_top off; k_with_none; trivial
theorem lines_M3_0 : True := by
  k_with "subscriptTail" => (((with_reducible show wpAny _ _ (subscriptTail (PySem.Expr.List _ _) _ (Value.ref _) (Value.int _ _)) _ _ _); refine held ?_))
  k_with "execs cons" => ((refine' aft_flat ?e ?_; (case e => first | (dsimp only; done) | (dsimp only; exact rfl) | exact rfl); intro _ _ _))
  k_with "execs nil" => (refine wpAny_execs_nil ?_)
  k_with "exec If" => (refine wpAny_If ?_)
  k_with "Post next" => (first | refine aft_end (by with_reducible assumption) ?_ | refine aft_next (by with_reducible assumption) ?_)
  k_with "Post ret" => (refine aft_ret (by with_reducible assumption) ?_)
  k_with "Post brk" => (refine aft_brk (by with_reducible assumption) ?_)
  k_with "Post cont" => (refine aft_cont (by with_reducible assumption) ?_)
  k_with "GenPost ret" => (refine genPost_ret ?_)
  k_with "call" => (((with_reducible show wpAny _ _ (call (Value.type _) _) _ _ _); refine sub_A (by with_reducible assumption) ?_))
  k_with "subscriptTail Name Slice ref ref" => (refine held ?_)
  trivial
/-- what is told of a record, as a list of the ledger -/
inductive ToldIn (a : Addr) (us rs : List Str) (x y : Str) (led : List (Addr × Obj)) : Prop
  | mk (u r : Addr) (vu vr : List Value) (t1 t2 : Tok) (n n1 n2 : Nat) (h1 : StrsAre vu us) (h2 : StrsAre vr rs) (m1 : (a, listOf #[.ref u, .ref r, .str x t1, .str y t2] n) ∈ led) (m2 : (u, listOf (List.toArray vu) n1) ∈ led) (m3 : (r, listOf (List.toArray vr) n2) ∈ led)
theorem ToldIn.mono {a : Addr} {us rs : List Str} {x y : Str} {led led' : List (Addr × Obj)} (h : ToldIn a us rs x y led) (hn : ∀ z ∈ led, z ∈ led') : ToldIn a us rs x y led' := by
  obtain ⟨u, r, vu, vr, t1, t2, n, n1, n2, h1, h2, m1, m2, m3⟩ := h
  exact ⟨u, r, vu, vr, t1, t2, n, n1, n2, h1, h2, hn _ m1, hn _ m2, hn _ m3⟩
theorem strs_take {vs : List Value} {us : List Str} (h : StrsAre vs us) : ∀ n, StrsAre (vs.take n) (us.take n) := by
  induction h with
  | nil => intro n; simp; exact .nil
  | cons x t _ ih =>
    intro n
    cases n with
    | zero => exact .nil
    | succ n => exact .cons x t (ih n)
theorem done_due {h₀ h' : Heap} {L l u r : Addr} {m m' : Str → Option Value} {s : Shared} {led : List (Addr × Obj)} {x y : Str} {us rs : List Str} {vu ys : List Value} {t1 t2 : Tok} {n n1 n2 tk' : Nat} {p1 p2 p3 p4 p5 : Addr × Obj} {nm : Str}
    (F : Fr h₀ L h' (fun y => if y = nm then some (.ref l) else m' y)) (hv : ∀ y, m y = m' y)
    (N : News h₀ L h' ((l, listOf #[.ref u, .ref r, .str x t1, .str y t2] n) :: p1 :: p2 :: (r, listOf ys.toArray n2) :: (u, listOf vu.toArray n1) :: p3 :: p4 :: p5 :: led)) (h1 : StrsAre vu us) (h2 : StrsAre ys rs) :
    StA h₀ L m led s nm (fun v new => ∃ a, v = .ref a ∧ ToldIn a us rs x y new) .next ⟨h', s.gens, s.drawn, tk', s.os⟩ := by
  refine ⟨.ref l, [(l, listOf #[.ref u, .ref r, .str x t1, .str y t2] n), p1, p2, (r, listOf ys.toArray n2), (u, listOf vu.toArray n1), p3, p4, p5], h', tk', s.gens, Fr.view F (fun y => by rw [hv y]), N, id, l, rfl, u, r, vu, ys, t1, t2, n, n1, n2, h1, h2, .head _, .tail _ (.tail _ (.tail _ (.tail _ (.head _)))), .tail _ (.tail _ (.tail _ (.head _)))⟩
section
variable {w : World} {dp un : Nat} {gd : Option (List Code)} {base : Heap} {fr : List Env} {A : Around} {h₀ : Heap} {L : Addr} {s : Shared} {mean : ExcName → Option Value} {mg mb : Str → Option Value}
  (hAr : A = Around.deeper ⟨none, dp, some fr, gd, un⟩ (meetEnv L)) (hdp : dp + 8 < recursionLimit) (hun : un + 20 * 8 + 40 < cLine) (Bw : Below ⟨none, dp, some fr, gd, un⟩ base fr h₀) (X : (hd.heap_39 w.params).In h₀) (T : Top hd.view_39 (looseW hd.view_39 []) mean mg mb h₀)
  {m : Str → Option Value} {led : List (Addr × Obj)}
include hAr hdp hun Bw X T
theorem meet_due {k : Nat} {ti tc : Tok} (hk : k < 4) {a b : List Nat} {ta tb : Tok} (hla : a.length < 100) (hlb : b.length < 100) {rm : Addr} {vm : List Value} {nm c : Nat} {um : List Str}
    (hm : StrsAre vm um) (h1 : vm.length < 100) (hc9 : c < 100) (ek : m (Str.ofString "k") = some (.int (k : Nat) ti)) (em : m (Str.ofString "mine") = some (.ref rm)) (eo : m (Str.ofString "one") = some (.str (S a) ta)) (et : m (Str.ofString "two") = some (.str (S b) tb)) (es : m (Str.ofString "size") = some (.int (c : Nat) tc))
    (F : Fr h₀ L s.heap m) (N : News h₀ L s.heap led) (hmm : (rm, listOf vm.toArray nm) ∈ led) :
    wpAny (model PR w) A (exec (stAt meetLoop 7) (meetEnv L)) (StA h₀ L m led s (Str.ofString "due") fun v new => ∃ x, v = .ref x ∧ ToldIn x (um.take c ++ um.take 1) (signs (S a) ++ signs (S b)) ((dl1 k).pick (dl2 k)).txt ((rt1 k).pick (rt2 k)).txt new) (fun _ _ => False) s := by
  have hla' : (S a).length < 100 := by rw [S_len]; exact hla
  have hlb' : (S b).length < 100 := by rw [S_len]; exact hlb
  have htk : (vm.take c).length + (vm.take 1).length ≤ sizeLine := by rw [sizeLine_eq, List.length_take, List.length_take]; omega
  obtain ⟨h, gens, dr, tk, os⟩ := s
  have F₁ := Fr.view (m' := fun y => if y = Str.ofString "k" then some (.int (k : Nat) ti) else if y = Str.ofString "mine" then some (.ref rm) else if y = Str.ofString "one" then some (.str (S a) ta) else if y = Str.ofString "two" then some (.str (S b) tb) else if y = Str.ofString "size" then some (.int (c : Nat) tc) else m y) F (fun y => by rw [put_eq es, put_eq et, put_eq eo, put_eq em, put_eq ek])
  have N₁ : News h₀ L h ((rm, listOf vm.toArray nm) :: led) := by
    intro p hp
    rcases List.mem_cons.mp hp with rfl | hp
    · exact N _ hmm
    · exact N _ hp
  clear F N
  refine st_hide fun Q' hQ' => ?_
  unfold stAt meetLoop fnBody
  dsimp only [stm, PySem.Challenge.pw_rs0061_01, List.drop]
  k_steps
  rename Fr h₀ _ _ _ => F₈
  rename News h₀ _ _ _ => N₈
  refine unheld (slice_to_step (c := c) F₈ N₈ (N₈ _ (.head _)).1 rfl h1 fun h₉ r9 F₉ N₉ l9 => ?_)
  clear F₈ N₈
  k_lt l9
  k_steps
  rename Fr h₀ _ _ _ => F₁₀
  rename News h₀ _ _ _ => N₁₀
  refine unheld (slice_to_step (c := 1) F₁₀ N₁₀ (N₁₀ _ (.tail _ (.head _))).1 rfl h1 fun h₁₁ r11 F₁₁ N₁₁ l11 => ?_)
  clear F₁₀ N₁₀
  k_lt l11
  k_steps
  rename News _ _ _ _ => N₃
  refine unheld (item4 (fun k v => ∃ t, v = .str ((dl1 k).pick (dl2 k)).txt t) N₃ hk (by exact ⟨_, congrArg (fun z => Value.str z _) (by decide)⟩) (by exact ⟨_, congrArg (fun z => Value.str z _) (by decide)⟩) (by exact ⟨_, congrArg (fun z => Value.str z _) (by decide)⟩) (by exact ⟨_, congrArg (fun z => Value.str z _) (by decide)⟩) fun x5 hx5 => ?_)
  obtain ⟨t5, rfl⟩ := hx5
  k_steps
  rename News _ _ _ _ => N₃
  refine unheld (item4 (fun k v => ∃ t, v = .str ((rt1 k).pick (rt2 k)).txt t) N₃ hk (by exact ⟨_, congrArg (fun z => Value.str z _) (by decide)⟩) (by exact ⟨_, congrArg (fun z => Value.str z _) (by decide)⟩) (by exact ⟨_, congrArg (fun z => Value.str z _) (by decide)⟩) (by exact ⟨_, congrArg (fun z => Value.str z _) (by decide)⟩) fun x6 hx6 => ?_)
  obtain ⟨t6, rfl⟩ := hx6
  k_steps
  rename Fr h₀ _ _ _ => F₁₂
  rename News h₀ _ _ _ => N₁₂
  rename CarriedAll _ _ => hca
  have hs := StrsAre.of_carried hca
  rw [signs_app] at hs
  try dsimp only at N₁₂
  exact hQ' _ _ (done_due F₁₂ (fun y => by rw [put_eq es, put_eq et, put_eq eo, put_eq em, put_eq ek]) N₁₂ (strs_app (strs_take (by assumption) c) (strs_take (by assumption) 1)) hs)
end
end Mine

end

section
open PySem PySem.W PyProof.Rows PySem.Calls
namespace Mine
theorem reset_M4 : True := by w_top off; k_with_none; trivial
theorem lines_M4_0 : True := by
  k_with "execs cons" => ((refine' aft_flat ?e ?_; (case e => first | (dsimp only; done) | (dsimp only; exact rfl) | exact rfl); intro _ _ _))
  k_with "execs nil" => (refine wpAny_execs_nil ?_)
  k_with "exec If" => (refine wpAny_If ?_)
  k_with "Post next" => (first | refine aft_end (by with_reducible assumption) ?_ | refine aft_next (by with_reducible assumption) ?_)
  k_with "Post ret" => (refine aft_ret (by with_reducible assumption) ?_)
  k_with "Post brk" => (refine aft_brk (by with_reducible assumption) ?_)
  k_with "Post cont" => (refine aft_cont (by with_reducible assumption) ?_)
  k_with "GenPost ret" => (refine genPost_ret ?_)
  k_with "call" => (((with_reducible show wpAny _ _ (call (Value.type _) _) _ _ _); refine sub_A (by with_reducible assumption) ?_))
  k_with "compareOp NotEq ref ref" => (refine held ?_)
  trivial
section
variable {w : World} {dp un : Nat} {gd : Option (List Code)} {base : Heap} {fr : List Env} {A : Around} {h₀ : Heap} {L : Addr} {s : Shared} {mean : ExcName → Option Value} {mg mb : Str → Option Value}
  (hAr : A = Around.deeper ⟨none, dp, some fr, gd, un⟩ (meetEnv L)) (hdp : dp + 8 < recursionLimit) (hun : un + 20 * 8 + 40 < cLine) (Bw : Below ⟨none, dp, some fr, gd, un⟩ base fr h₀) (X : (hd.heap_39 w.params).In h₀) (T : Top hd.view_39 (looseW hd.view_39 []) mean mg mb h₀)
  {m : Str → Option Value} {led : List (Addr × Obj)}
include hAr hdp hun Bw X T
theorem meet_told {x3 y : Addr} {u3 r3 : List Str} {p3 q3 : PV} (e3 : m (Str.ofString "merged") = some (.ref x3)) (ed : m (Str.ofString "due") = some (.ref y)) (R3 : RecIn w x3 u3 r3 p3 q3 led) (R4 : ToldIn y u3 r3 p3.txt q3.txt led)
    (k1 : Oks u3) (k2 : Oks r3) (k3 : PyData.strOk p3.txt = true) (k4 : PyData.strOk q3.txt = true)
    (F : Fr h₀ L s.heap m) (N : News h₀ L s.heap led) :
    wpAny (model PR w) A (exec (stAt meetLoop 8) (meetEnv L)) (StI h₀ L m led s) (fun _ _ => False) s := by
  have hd3 : dp + (2 + 1) < recursionLimit := by omega
  have hu3 : un + 20 * 2 + 43 < cLine := by omega
  obtain ⟨h, gens, dr, tk, os⟩ := s
  have F₁ := Fr.view (m' := fun y' => if y' = Str.ofString "merged" then some (.ref x3) else if y' = Str.ofString "due" then some (.ref y) else m y') F (fun y => by rw [put_eq ed, put_eq e3])
  obtain ⟨dlA, rtA, dxA, uA, rA, a1, a2, a3, a4, itA, yA, nA, nA', hpA, hqA, hA1, hA2, mA1, mA2, mA3, mA4⟩ := R3
  clear F
  refine st_hide fun Q' hQ' => ?_
  unfold stAt meetLoop fnBody
  dsimp only [stm, PySem.Challenge.pw_rs0061_01, List.drop]
  k_steps
  refine use_ctP hAr (told_ct w x3 dxA uA rA dlA rtA p3.txt q3.txt a1 a2 a3 a4 hpA.tx hqA.tx) ⟨(N _ mA3).1, (N _ mA4).1⟩ Bw F₁ X N T rfl rfl hd3 hu3 ?_
  rintro v new h₃ tk₃ g₃ ⟨z, t1, t2, n, rfl, rfl⟩ F₃ N₃ - hb₃
  clear F₁ N
  try dsimp only
  k_steps
  obtain ⟨ub, rb, vu, vr, b1, b2, c, c1, c2, hB1, hB2, mB1, mB2, mB3⟩ := R4
  have N₄ : News h₀ L h₃ led := fun p hp => N₃ p (List.mem_append.mpr (.inl hp))
  obtain ⟨as, ras⟩ := reads_told (N₃ _ (List.mem_append.mpr (.inr (.head _)))).1 (N₄ _ mA1).1 (N₄ _ mA2).1 hA1 hA2
  obtain ⟨bs, rbs⟩ := reads_told (N₄ _ mB1).1 (N₄ _ mB2).1 (N₄ _ mB3).1 hB1 hB2
  refine unheld (ne_told ras rbs k1 k2 k3 k4 (by rw [hAr]; show un + 3 + 64 < _; omega) ?_)
  k_steps
  exact hQ' _ _ ⟨_, _, _, Fr.view F₃ (fun y => by rw [put_eq ed, put_eq e3]), N₄, hb₃⟩
end
end Mine

end

section
open PySem PySem.W PyProof.Rows PySem.Calls
namespace Mine
theorem reset_M5 : True := by w_top off; k_with_none; trivial
theorem lines_M5_0 : True := by
  k_with "subscriptTail" => (((with_reducible show wpAny _ _ (subscriptTail (PySem.Expr.List _ _) _ (Value.ref _) (Value.int _ _)) _ _ _); refine held ?_))
  k_with "execs cons" => ((refine' aft_flat ?e ?_; (case e => first | (dsimp only; done) | (dsimp only; exact rfl) | exact rfl); intro _ _ _))
  k_with "execs nil" => (refine wpAny_execs_nil ?_)
  k_with "exec If" => (refine wpAny_If ?_)
  k_with "Post next" => (first | refine aft_end (by with_reducible assumption) ?_ | refine aft_next (by with_reducible assumption) ?_)
  k_with "Post ret" => (refine aft_ret (by with_reducible assumption) ?_)
  k_with "Post brk" => (refine aft_brk (by with_reducible assumption) ?_)
  k_with "Post cont" => (refine aft_cont (by with_reducible assumption) ?_)
  k_with "GenPost ret" => (refine genPost_ret ?_)
  k_with "call" => (((with_reducible show wpAny _ _ (call (Value.type _) _) _ _ _); refine sub_A (by with_reducible assumption) ?_))
  k_with "compareOp NotEq ref ref" => (refine held ?_)
  trivial
theorem dl1_ok : ∀ k, PyData.strOk (dl1 k).txt = true
  | 0 => by decide +kernel
  | 1 => by decide +kernel
  | _ + 2 => by show PyData.strOk (Str.ofString "None") = true; decide +kernel
theorem dl2_ok : ∀ k, PyData.strOk (dl2 k).txt = true
  | 0 => by decide +kernel
  | 1 => by decide +kernel
  | 2 => by decide +kernel
  | _ + 3 => by show PyData.strOk (Str.ofString "None") = true; decide +kernel
theorem rt1_ok : ∀ k, PyData.strOk (rt1 k).txt = true
  | 0 => by decide +kernel
  | 1 => by decide +kernel
  | 2 => by decide +kernel
  | _ + 3 => by show PyData.strOk (Str.ofString "None") = true; decide +kernel
theorem rt2_ok : ∀ k, PyData.strOk (rt2 k).txt = true
  | 0 => by decide +kernel
  | 1 => by decide +kernel
  | 2 => by decide +kernel
  | _ + 3 => by show PyData.strOk (Str.ofString "None") = true; decide +kernel
theorem news_z {h₀ h : Heap} {L l rl ro z : Addr} {p1 p2 : Addr × Obj} {o1 o2 o3 o4 : Obj} {led : List (Addr × Obj)} (N : News h₀ L h ((l, o1) :: p1 :: p2 :: (ro, o2) :: (rl, o3) :: (z, o4) :: led)) :
    h.get? z = some o4 ∧ h.get? l = some o1 ∧ h.get? rl = some o3 ∧ h.get? ro = some o2 :=
  ⟨(N _ (.tail _ (.tail _ (.tail _ (.tail _ (.tail _ (.head _))))))).1, (N _ (.head _)).1, (N _ (.tail _ (.tail _ (.tail _ (.tail _ (.head _)))))).1, (N _ (.tail _ (.tail _ (.tail _ (.head _))))).1⟩
theorem told_end {w : World} {A : Around} {E : Value → Shared → Prop} {s : Shared} {z l u r u' r' : Addr} {us rs : List Str} {vu vr vu' vr' : List Value} {x y x' y' : Str} {t1 t2 t3 t4 : Tok} {n n1 n2 n' n1' n2' : Nat} {Q : Value → Shared → Prop}
    (hz : s.heap.get? z = some (listOf #[.ref u, .ref r, .str x t1, .str y t2] n)) (hu : s.heap.get? u = some (listOf vu.toArray n1)) (hr : s.heap.get? r = some (listOf vr.toArray n2))
    (hl : s.heap.get? l = some (listOf #[.ref u', .ref r', .str x' t3, .str y' t4] n')) (hu' : s.heap.get? u' = some (listOf vu'.toArray n1')) (hr' : s.heap.get? r' = some (listOf vr'.toArray n2'))
    (su : StrsAre vu us) (sr : StrsAre vr rs) (su' : StrsAre vu' us) (sr' : StrsAre vr' rs) (ex : x = x') (ey : y = y') (k1 : Oks us) (k2 : Oks rs) (k3 : PyData.strOk x = true) (k4 : PyData.strOk y = true) (hun : A.units + 64 < cLine) (h : Q (.bool false) s) :
    wpAny (model PR w) A (compareOp .NotEq (.ref z) (.ref l)) Q E s := by
  subst ex ey
  obtain ⟨as, ra⟩ := reads_told hz hu hr su sr
  obtain ⟨bs, rb⟩ := reads_told hl hu' hr' su' sr'
  exact ne_told ra rb k1 k2 k3 k4 hun h
section
variable {w : World} {dp un : Nat} {gd : Option (List Code)} {base : Heap} {fr : List Env} {A : Around} {h₀ : Heap} {L : Addr} {s : Shared} {mean : ExcName → Option Value} {mg mb : Str → Option Value}
  (hAr : A = Around.deeper ⟨none, dp, some fr, gd, un⟩ (meetEnv L)) (hdp : dp + 8 < recursionLimit) (hun : un + 20 * 8 + 40 < cLine) (Bw : Below ⟨none, dp, some fr, gd, un⟩ base fr h₀) (X : (hd.heap_39 w.params).In h₀) (T : Top hd.view_39 (looseW hd.view_39 []) mean mg mb h₀)
  {m : Str → Option Value} {led : List (Addr × Obj)} {k : Nat} {ti : Tok} (hk : k < 4)
include hAr hdp hun Bw X T hk
theorem meet_told1 {a : List Nat} {ta : Tok} (hla : a.length < 100) {x1 rl : Addr} {vl : List Value} {nl : Nat} {ul : List Str} (e1 : m (Str.ofString "first") = some (.ref x1)) (el : m (Str.ofString "longer") = some (.ref rl)) (eo : m (Str.ofString "one") = some (.str (S a) ta)) (ek : m (Str.ofString "k") = some (.int (k : Nat) ti))
    (R : RecIn w x1 ul (signs (S a)) (dl1 k) (rt1 k) led) (hl : StrsAre vl ul) (hm : (rl, listOf vl.toArray nl) ∈ led)
    (k1 : Oks ul) (k2 : Oks (signs (S a)))
    (F : Fr h₀ L s.heap m) (N : News h₀ L s.heap led) :
    wpAny (model PR w) A (exec (stAt meetLoop 9) (meetEnv L)) (StI h₀ L m led s) (fun _ _ => False) s := by
  have hd3 : dp + (2 + 1) < recursionLimit := by omega
  have hu3 : un + 20 * 2 + 43 < cLine := by omega
  have hla' : (S a).length < 100 := by rw [S_len]; exact hla
  obtain ⟨h, gens, dr, tk, os⟩ := s
  have F₁ := Fr.view (m' := fun y => if y = Str.ofString "first" then some (.ref x1) else if y = Str.ofString "longer" then some (.ref rl) else if y = Str.ofString "one" then some (.str (S a) ta) else if y = Str.ofString "k" then some (.int (k : Nat) ti) else m y) F (fun y => by rw [put_eq ek, put_eq eo, put_eq el, put_eq e1])
  obtain ⟨dlA, rtA, dxA, uA, rA, a1, a2, a3, a4, itA, yA, nA, nA', hpA, hqA, hA1, hA2, mA1, mA2, mA3, mA4⟩ := R
  clear F
  refine st_hide fun Q' hQ' => ?_
  unfold stAt meetLoop fnBody
  dsimp only [stm, PySem.Challenge.pw_rs0061_01, List.drop]
  k_steps
  refine use_ctP hAr (told_ct w x1 dxA uA rA dlA rtA (dl1 k).txt (rt1 k).txt a1 a2 a3 a4 hpA.tx hqA.tx) ⟨(N _ mA3).1, (N _ mA4).1⟩ Bw F₁ X N T rfl rfl hd3 hu3 ?_
  rintro v new h₃ tk₃ g₃ ⟨z, t1, t2, n, rfl, rfl⟩ F₃ N₃ - hb₃
  clear F₁ N
  have N₄ : News h₀ L h₃ ((rl, listOf vl.toArray nl) :: (z, listOf #[.ref uA, .ref rA, .str (dl1 k).txt t1, .str (rt1 k).txt t2] n) :: led) := fun p hp => N₃ p (by
    rcases List.mem_cons.mp hp with rfl | hp
    · exact List.mem_append.mpr (.inl hm)
    · exact (List.mem_cons.mp hp).elim (fun e => List.mem_append.mpr (.inr (by rw [e]; exact .head _))) fun e => List.mem_append.mpr (.inl e))
  have g1 := (N₃ _ (List.mem_append.mpr (.inr (.head _)))).1
  have g2 := (N₃ _ (List.mem_append.mpr (.inl mA1))).1
  have g3 := (N₃ _ (List.mem_append.mpr (.inl mA2))).1
  clear N₃
  dsimp only
  k_steps
  rename News _ _ _ _ => N₅
  refine unheld (item4 (fun k v => ∃ t, v = .str (dl1 k).txt t) N₅ hk (by exact ⟨_, congrArg (fun z => Value.str z _) (by decide)⟩) (by exact ⟨_, congrArg (fun z => Value.str z _) (by decide)⟩) (by exact ⟨_, congrArg (fun z => Value.str z _) (by decide)⟩) (by exact ⟨_, congrArg (fun z => Value.str z _) (by decide)⟩) fun x5 hx5 => ?_)
  obtain ⟨t5, rfl⟩ := hx5
  k_steps
  rename News _ _ _ _ => N₅
  refine unheld (item4 (fun k v => ∃ t, v = .str (rt1 k).txt t) N₅ hk (by exact ⟨_, congrArg (fun z => Value.str z _) (by decide)⟩) (by exact ⟨_, congrArg (fun z => Value.str z _) (by decide)⟩) (by exact ⟨_, congrArg (fun z => Value.str z _) (by decide)⟩) (by exact ⟨_, congrArg (fun z => Value.str z _) (by decide)⟩) fun x6 hx6 => ?_)
  obtain ⟨t6, rfl⟩ := hx6
  k_steps
  rename Fr h₀ _ _ _ => F₅
  rename News h₀ _ _ _ => N₅
  rename CarriedAll _ _ => hca
  have hs := StrsAre.of_carried hca
  have z1 := news_z N₅
  refine unheld (told_end z1.1 (N₅ _ (.tail _ (.tail _ (.tail _ (.tail _ (.tail _ (.tail _ mA1))))))).1 (N₅ _ (.tail _ (.tail _ (.tail _ (.tail _ (.tail _ (.tail _ mA2))))))).1 z1.2.1 z1.2.2.1 z1.2.2.2 hA1 hA2 hl hs rfl rfl k1 k2 (dl1_ok _) (rt1_ok _) (by rw [hAr]; show un + 3 + 64 < _; omega) ?_)
  k_steps
  exact hQ' _ _ ⟨_, _, _, Fr.view F₅ (fun y => by rw [put_eq ek, put_eq eo, put_eq el, put_eq e1]), fun p hp => N₅ p (.tail _ (.tail _ (.tail _ (.tail _ (.tail _ (.tail _ hp)))))), hb₃⟩
theorem meet_told2 {a : List Nat} {ta : Tok} (hla : a.length < 100) {x1 rl : Addr} {vl : List Value} {nl : Nat} {ul : List Str} (e1 : m (Str.ofString "second") = some (.ref x1)) (el : m (Str.ofString "theirs") = some (.ref rl)) (eo : m (Str.ofString "two") = some (.str (S a) ta)) (ek : m (Str.ofString "k") = some (.int (k : Nat) ti))
    (R : RecIn w x1 ul (signs (S a)) (dl2 k) (rt2 k) led) (hl : StrsAre vl ul) (hm : (rl, listOf vl.toArray nl) ∈ led)
    (k1 : Oks ul) (k2 : Oks (signs (S a)))
    (F : Fr h₀ L s.heap m) (N : News h₀ L s.heap led) :
    wpAny (model PR w) A (exec (stAt meetLoop 10) (meetEnv L)) (StI h₀ L m led s) (fun _ _ => False) s := by
  have hd3 : dp + (2 + 1) < recursionLimit := by omega
  have hu3 : un + 20 * 2 + 43 < cLine := by omega
  have hla' : (S a).length < 100 := by rw [S_len]; exact hla
  obtain ⟨h, gens, dr, tk, os⟩ := s
  have F₁ := Fr.view (m' := fun y => if y = Str.ofString "second" then some (.ref x1) else if y = Str.ofString "theirs" then some (.ref rl) else if y = Str.ofString "two" then some (.str (S a) ta) else if y = Str.ofString "k" then some (.int (k : Nat) ti) else m y) F (fun y => by rw [put_eq ek, put_eq eo, put_eq el, put_eq e1])
  obtain ⟨dlA, rtA, dxA, uA, rA, a1, a2, a3, a4, itA, yA, nA, nA', hpA, hqA, hA1, hA2, mA1, mA2, mA3, mA4⟩ := R
  clear F
  refine st_hide fun Q' hQ' => ?_
  unfold stAt meetLoop fnBody
  dsimp only [stm, PySem.Challenge.pw_rs0061_01, List.drop]
  k_steps
  refine use_ctP hAr (told_ct w x1 dxA uA rA dlA rtA (dl2 k).txt (rt2 k).txt a1 a2 a3 a4 hpA.tx hqA.tx) ⟨(N _ mA3).1, (N _ mA4).1⟩ Bw F₁ X N T rfl rfl hd3 hu3 ?_
  rintro v new h₃ tk₃ g₃ ⟨z, t1, t2, n, rfl, rfl⟩ F₃ N₃ - hb₃
  clear F₁ N
  have N₄ : News h₀ L h₃ ((rl, listOf vl.toArray nl) :: (z, listOf #[.ref uA, .ref rA, .str (dl2 k).txt t1, .str (rt2 k).txt t2] n) :: led) := fun p hp => N₃ p (by
    rcases List.mem_cons.mp hp with rfl | hp
    · exact List.mem_append.mpr (.inl hm)
    · exact (List.mem_cons.mp hp).elim (fun e => List.mem_append.mpr (.inr (by rw [e]; exact .head _))) fun e => List.mem_append.mpr (.inl e))
  have g1 := (N₃ _ (List.mem_append.mpr (.inr (.head _)))).1
  have g2 := (N₃ _ (List.mem_append.mpr (.inl mA1))).1
  have g3 := (N₃ _ (List.mem_append.mpr (.inl mA2))).1
  clear N₃
  dsimp only
  k_steps
  rename News _ _ _ _ => N₅
  refine unheld (item4 (fun k v => ∃ t, v = .str (dl2 k).txt t) N₅ hk (by exact ⟨_, congrArg (fun z => Value.str z _) (by decide)⟩) (by exact ⟨_, congrArg (fun z => Value.str z _) (by decide)⟩) (by exact ⟨_, congrArg (fun z => Value.str z _) (by decide)⟩) (by exact ⟨_, congrArg (fun z => Value.str z _) (by decide)⟩) fun x5 hx5 => ?_)
  obtain ⟨t5, rfl⟩ := hx5
  k_steps
  rename News _ _ _ _ => N₅
  refine unheld (item4 (fun k v => ∃ t, v = .str (rt2 k).txt t) N₅ hk (by exact ⟨_, congrArg (fun z => Value.str z _) (by decide)⟩) (by exact ⟨_, congrArg (fun z => Value.str z _) (by decide)⟩) (by exact ⟨_, congrArg (fun z => Value.str z _) (by decide)⟩) (by exact ⟨_, congrArg (fun z => Value.str z _) (by decide)⟩) fun x6 hx6 => ?_)
  obtain ⟨t6, rfl⟩ := hx6
  k_steps
  rename Fr h₀ _ _ _ => F₅
  rename News h₀ _ _ _ => N₅
  rename CarriedAll _ _ => hca
  have hs := StrsAre.of_carried hca
  have z1 := news_z N₅
  refine unheld (told_end z1.1 (N₅ _ (.tail _ (.tail _ (.tail _ (.tail _ (.tail _ (.tail _ mA1))))))).1 (N₅ _ (.tail _ (.tail _ (.tail _ (.tail _ (.tail _ (.tail _ mA2))))))).1 z1.2.1 z1.2.2.1 z1.2.2.2 hA1 hA2 hl hs rfl rfl k1 k2 (dl2_ok _) (rt2_ok _) (by rw [hAr]; show un + 3 + 64 < _; omega) ?_)
  k_steps
  exact hQ' _ _ ⟨_, _, _, Fr.view F₅ (fun y => by rw [put_eq ek, put_eq eo, put_eq el, put_eq e1]), fun p hp => N₅ p (.tail _ (.tail _ (.tail _ (.tail _ (.tail _ (.tail _ hp)))))), hb₃⟩
end
end Mine

end

section
open PySem PySem.W PyProof.Rows PySem.Calls
namespace Mine
theorem reset_M6 : True := by w_top off; k_with_none; trivial
theorem lines_M6_0 : True := by
  k_with "subscriptTail Name Slice ref ref" => (refine held ?_)
  k_with "subscriptTail Name Name ref int" => (refine held ?_)
  k_with "execs cons" => ((refine' aft_flat ?e ?_; (case e => first | (dsimp only; done) | (dsimp only; exact rfl) | exact rfl); intro _ _ _))
  k_with "execs nil" => (refine wpAny_execs_nil ?_)
  k_with "exec If" => (refine wpAny_If ?_)
  k_with "Post next" => (first | refine aft_end (by with_reducible assumption) ?_ | refine aft_next (by with_reducible assumption) ?_)
  k_with "Post ret" => (refine aft_ret (by with_reducible assumption) ?_)
  k_with "Post brk" => (refine aft_brk (by with_reducible assumption) ?_)
  k_with "Post cont" => (refine aft_cont (by with_reducible assumption) ?_)
  k_with "GenPost ret" => (refine genPost_ret ?_)
  k_with "call" => (((with_reducible show wpAny _ _ (call (Value.type _) _) _ _ _); refine sub_A (by with_reducible assumption) ?_))
  k_with "call type:list" => (with_reducible refine held_abcd ?_)
  trivial
noncomputable def abcd : List Str := [Str.ofString "a", Str.ofString "b", Str.ofString "c", Str.ofString "d"]
noncomputable def mineL (k n : Nat) : List Str := (abcd.drop k).take n
theorem strs_drop {vs : List Value} {us : List Str} (h : StrsAre vs us) : ∀ n, StrsAre (vs.drop n) (us.drop n) := by
  induction h with
  | nil => intro n; simp; exact .nil
  | cons x t r ih =>
    intro n
    cases n with
    | zero => exact .cons x t r
    | succ n => exact ih n
/-- one of four items of a list of the ledger, at an open place -/
theorem item4m {w : World} {A : Around} {E : Value → Shared → Prop} {s : Shared} {h₀ : Heap} {L l : Addr} {a b c d : Value} {n k : Nat} {u : Tok} {led : List (Addr × Obj)} {value slice : PySem.Expr} {Q : Value → Shared → Prop} (P : Nat → Value → Prop)
    (N : News h₀ L s.heap led) (hm : (l, listOf #[a, b, c, d] n) ∈ led) (hk : k < 4) (p0 : P 0 a) (p1 : P 1 b) (p2 : P 2 c) (p3 : P 3 d) (h : ∀ v, P k v → Q v s)
    (hs : subscripted slice false (.ref l) (.int (k : Int) u) = operate [.ref l, .int (k : Int) u] (getItem (.ref l) (.int (k : Int) u)) := by with_unfolding_all rfl) :
    wpAny (model PR w) A (subscriptTail value slice (.ref l) (.int (k : Int) u)) Q E s :=
  item4 (led := led) P (fun p hp => (List.mem_cons.mp hp).elim (fun e => e ▸ N _ hm) (N p)) hk p0 p1 p2 p3 h hs
theorem slice_ab_step {w : World} {A : Around} {E : Value → Shared → Prop} {s : Shared} {h₀ : Heap} {L : Addr} {m : Str → Option Value} {led : List (Addr × Obj)} {value slice : PySem.Expr} {l : Addr} {vs : List Value} {n k c : Nat} {t t' : Tok} {x y : Int} {Q : Value → Shared → Prop} (F : Fr h₀ L s.heap m) (N : News h₀ L s.heap led) (hl : s.heap.get? l = some (listOf vs.toArray n)) (hx : x = (k : Int)) (hy : y = ((k + c : Nat) : Int)) (hkc : k + c ≤ vs.length) (hv : vs.length < 100)
    (h : ∀ h' r, Fr h₀ L h' m → News h₀ L h' ((r, listOf ((vs.drop k).take c).toArray 0) :: led) → (∀ p ∈ led, p.1 < r) → Q (.ref r) { s with heap := h' })
    (hs : subscripted slice false (.ref l) (.ref s.heap.objs.size) = operate [.ref s.heap.objs.size, .ref l] (getItem (.ref l) (.ref s.heap.objs.size)) := by with_unfolding_all rfl)
    (ht : ∀ r, letTemporaryGo value (.ref l) r = pure () := by intro _; with_unfolding_all rfl) :
    wpAny (model PR w) A (subscriptTail value slice (.ref l) (.ref s.heap.objs.size)) Q E { s with heap := s.heap.push { cls := .type "slice", data := .fields #[.int x t, .int y t', .none] } } := by
  subst hx hy
  refine slice_listK ⟨_, hl, rfl, _, rfl⟩ (.int _ _) (.int _ _) ?_ hs ht (by rw [sizeLine_eq]; simp; omega)
  rw [slicePick_run _ _ _ (by simpa using hkc) (Nat.le_add_right _ _), Nat.add_sub_cancel_left]
  have F₁ := after_F F (ext_push (o := { cls := .type "slice", data := .fields #[.int (k : Int) t, .int ((k + c : Nat) : Int) t', .none] }))
  have N₁ := after_N N (ext_push (o := { cls := .type "slice", data := .fields #[.int (k : Int) t, .int ((k + c : Nat) : Int) t', .none] }))
  have hz : s.heap.objs.size + 1 = (s.heap.push { cls := .type "slice", data := .fields #[.int (k : Int) t, .int ((k + c : Nat) : Int) t', .none] }).objs.size := by rw [Heap.size_push]
  rw [hz]
  exact h _ _ (after_F F₁ ext_push) (news_push F₁ N₁ rfl) fun p hp => Heap.lt_size (N₁ p hp).1
theorem news_third {h₀ h : Heap} {L : Addr} {p1 p2 p3 : Addr × Obj} {led : List (Addr × Obj)} (N : News h₀ L h (p1 :: p2 :: p3 :: led)) : News h₀ L h ([p1, p2] ++ led) := fun p hp => N p (by
  rcases List.mem_cons.mp hp with rfl | h
  · exact .head _
  rcases List.mem_cons.mp h with rfl | h
  · exact .tail _ (.head _)
  · exact .tail _ (.tail _ (.tail _ h)))
section
variable {w : World} {dp un : Nat} {gd : Option (List Code)} {base : Heap} {fr : List Env} {A : Around} {h₀ : Heap} {L : Addr} {s : Shared} {mean : ExcName → Option Value} {mg mb : Str → Option Value}
  (hAr : A = Around.deeper ⟨none, dp, some fr, gd, un⟩ (meetEnv L)) (hdp : dp + 8 < recursionLimit) (hun : un + 20 * 8 + 40 < cLine) (Bw : Below ⟨none, dp, some fr, gd, un⟩ base fr h₀) (X : (hd.heap_39 w.params).In h₀) (T : Top hd.view_39 (looseW hd.view_39 []) mean mg mb h₀)
  {m : Str → Option Value} {led : List (Addr × Obj)} {k n : Nat} {ti : Tok} (hk : k < 4) (hn : 1 ≤ n) (hkn : k + n ≤ 4)
include hAr hdp hun Bw X T hk hn hkn
theorem meet_mine {r1 : Addr} {c1 : Nat} {n0 n1 n2 n3 : Int} {t0 t1 t2 t3 : Tok} (ek : m (Str.ofString "k") = some (.int (k : Nat) ti)) (es : m (Str.ofString "spans") = some (.ref r1))
    (hsp : [n0, n1, n2, n3][k]? = some (n : Int)) (hm : (r1, listOf #[.int n0 t0, .int n1 t1, .int n2 t2, .int n3 t3] c1) ∈ led)
    (F : Fr h₀ L s.heap m) (N : News h₀ L s.heap led) :
    wpAny (model PR w) A (exec (stAt meetLoop 0) (meetEnv L)) (StA h₀ L m led s (Str.ofString "mine") fun v new => ∃ x vm c, v = .ref x ∧ (x, listOf (List.toArray vm) c) ∈ new ∧ StrsAre vm (mineL k n)) (fun _ _ => False) s := by
  obtain ⟨h, gens, dr, tk, os⟩ := s
  have F₁ := Fr.view (m' := fun y => if y = Str.ofString "k" then some (.int (k : Nat) ti) else if y = Str.ofString "spans" then some (.ref r1) else m y) F (fun y => by rw [put_eq es, put_eq ek])
  have N₁ : News h₀ L h ((r1, listOf #[.int n0 t0, .int n1 t1, .int n2 t2, .int n3 t3] c1) :: led) := by
    intro p hp
    rcases List.mem_cons.mp hp with rfl | hp
    · exact N _ hm
    · exact N _ hp
  clear F N
  refine st_hide fun Q' hQ' => ?_
  unfold stAt meetLoop fnBody
  dsimp only [stm, PySem.Challenge.pw_rs0061_01, List.drop]
  k_steps
  rename Fr _ _ _ _ => F₀
  rename News _ _ _ _ => N₀
  refine unheld (list_abcd F₀ N₀ (by rw [hAr]; rfl) fun h₂ tk₂ l2 a1 a2 a3 a4 c2 F₃ N₃ l3 => ?_)
  clear F₀ N₀
  k_lt l3
  k_steps
  rename News _ _ _ _ => N₂
  refine unheld (item4m (fun i v => ∀ x : Int, [n0, n1, n2, n3][i]? = some x → ∃ t, v = .int x t) N₂ (.tail _ (.head _)) hk (by intro x h; cases h; exact ⟨_, rfl⟩) (by intro x h; cases h; exact ⟨_, rfl⟩) (by intro x h; cases h; exact ⟨_, rfl⟩) (by intro x h; cases h; exact ⟨_, rfl⟩) fun v hv => ?_)
  obtain ⟨tn, rfl⟩ := hv _ hsp
  k_steps
  rename Fr _ _ _ _ => F₃
  rename News _ _ _ _ => N₃
  refine unheld (slice_ab_step (k := k) (c := n) F₃ N₃ (N₃ _ (.head _)).1 rfl rfl hkn (by show 4 < 100; decide) fun h₄ r4 F₄ N₄ l4 => ?_)
  clear F₃ N₃
  k_lt l4
  k_steps
  rename Fr _ _ _ _ => F₂
  rename News _ _ _ _ => N₂
  exact hQ' _ _ ⟨_, [_, _], _, _, _, Fr.view F₂ (fun y => by rw [put_eq es, put_eq ek]), news_third N₂, id, _, _, _, rfl, .head _, strs_take (strs_drop (.cons _ _ (.cons _ _ (.cons _ _ (.cons _ _ .nil)))) k) n⟩
end
end Mine

end

section
open PySem PySem.W PyProof.Rows PySem.Calls
namespace Mine
theorem reset_M7 : True := by w_top off; k_with_none; trivial
theorem lines_M7_0 : True := by
  k_with "subscriptTail Name Slice ref ref" => (refine held ?_)
  k_with "subscriptTail Name Name ref int" => (refine held ?_)
  k_with "execs cons" => ((refine' aft_flat ?e ?_; (case e => first | (dsimp only; done) | (dsimp only; exact rfl) | exact rfl); intro _ _ _))
  k_with "execs nil" => (refine wpAny_execs_nil ?_)
  k_with "exec If" => (refine wpAny_If ?_)
  k_with "Post next" => (first | refine aft_end (by with_reducible assumption) ?_ | refine aft_next (by with_reducible assumption) ?_)
  k_with "Post ret" => (refine aft_ret (by with_reducible assumption) ?_)
  k_with "Post brk" => (refine aft_brk (by with_reducible assumption) ?_)
  k_with "Post cont" => (refine aft_cont (by with_reducible assumption) ?_)
  k_with "GenPost ret" => (refine genPost_ret ?_)
  k_with "call" => (((with_reducible show wpAny _ _ (call (Value.type _) _) _ _ _); refine sub_A (by with_reducible assumption) ?_))
  k_with "call type:list" => (with_reducible refine held_abcd ?_)
  trivial
noncomputable def upL : List Str := [Str.ofString "A", Str.ofString "B", Str.ofString "C", Str.ofString "D"]
noncomputable def dblL : List Str := [Str.ofString "aa", Str.ofString "bb", Str.ofString "cc", Str.ofString "dd"]
noncomputable def longerL (k n : Nat) : List Str := mineL k n ++ ((upL.drop k).take 1 ++ (dblL.drop k).take 1 ++ [Str.ofString ""]) ++ (mineL k n).take 1
noncomputable def theirsL (k n : Nat) : List Str := (mineL k n).reverse ++ [Str.ofString "*"]
theorem strs_reverse {vs : List Value} {us : List Str} (h : StrsAre vs us) : StrsAre vs.reverse us.reverse := by
  induction h with
  | nil => exact .nil
  | cons x t _ ih => rw [List.reverse_cons, List.reverse_cons]; exact strs_app ih (.cons x t .nil)
theorem mineL_cons {k n : Nat} (hk : k < 4) (hn : 1 ≤ n) : ∃ x up xs, mineL k n = x :: xs ∧ longerL k n = x :: xs ++ [up, x ++ x, Str.ofString ""] ++ [x] ∧ ((x = Str.ofString "a" ∧ up = Str.ofString "A") ∨ (x = Str.ofString "b" ∧ up = Str.ofString "B") ∨ (x = Str.ofString "c" ∧ up = Str.ofString "C") ∨ (x = Str.ofString "d" ∧ up = Str.ofString "D")) := by
  obtain ⟨n, rfl⟩ : ∃ n', n = n' + 1 := ⟨n - 1, by omega⟩
  have hc := lt4 hk
  rcases hc with rfl | rfl | rfl | rfl
  · exact ⟨Str.ofString "a", _, _, rfl, by rw [show Str.ofString "a" ++ Str.ofString "a" = Str.ofString "aa" by decide]; rfl, .inl ⟨rfl, rfl⟩⟩
  · exact ⟨Str.ofString "b", _, _, rfl, by rw [show Str.ofString "b" ++ Str.ofString "b" = Str.ofString "bb" by decide]; rfl, .inr (.inl ⟨rfl, rfl⟩)⟩
  · exact ⟨Str.ofString "c", _, _, rfl, by rw [show Str.ofString "c" ++ Str.ofString "c" = Str.ofString "cc" by decide]; rfl, .inr (.inr (.inl ⟨rfl, rfl⟩))⟩
  · exact ⟨Str.ofString "d", _, _, rfl, by rw [show Str.ofString "d" ++ Str.ofString "d" = Str.ofString "dd" by decide]; rfl, .inr (.inr (.inr ⟨rfl, rfl⟩))⟩
theorem news_fifth {h₀ h : Heap} {L : Addr} {p1 p2 p3 p4 p5 : Addr × Obj} {led : List (Addr × Obj)} (N : News h₀ L h (p1 :: p2 :: p3 :: p4 :: p5 :: led)) : News h₀ L h ([p1, p2, p3, p4] ++ led) := fun p hp => N p (by
  simp only [List.cons_append, List.nil_append, List.mem_cons] at hp ⊢
  rcases hp with h | h | h | h | h <;> simp [h])
theorem news_sixth {h₀ h : Heap} {L : Addr} {p1 p2 p3 p4 p5 p6 : Addr × Obj} {led : List (Addr × Obj)} (N : News h₀ L h (p1 :: p2 :: p3 :: p4 :: p5 :: p6 :: led)) : News h₀ L h ([p1, p2, p3, p4, p5] ++ led) := fun p hp => N p (by
  simp only [List.cons_append, List.nil_append, List.mem_cons] at hp ⊢
  rcases hp with h | h | h | h | h | h <;> simp [h])
section
variable {w : World} {dp un : Nat} {gd : Option (List Code)} {base : Heap} {fr : List Env} {A : Around} {h₀ : Heap} {L : Addr} {s : Shared} {mean : ExcName → Option Value} {mg mb : Str → Option Value}
  (hAr : A = Around.deeper ⟨none, dp, some fr, gd, un⟩ (meetEnv L)) (hdp : dp + 8 < recursionLimit) (hun : un + 20 * 8 + 40 < cLine) (Bw : Below ⟨none, dp, some fr, gd, un⟩ base fr h₀) (X : (hd.heap_39 w.params).In h₀) (T : Top hd.view_39 (looseW hd.view_39 []) mean mg mb h₀)
  {m : Str → Option Value} {led : List (Addr × Obj)} {k n : Nat} {ti : Tok} (hk : k < 4) (hn : 1 ≤ n) (hkn : k + n ≤ 4)
include hAr hdp hun Bw X T hk hn hkn
theorem meet_longer {rm : Addr} {c1 : Nat} {vm : List Value} (em : m (Str.ofString "mine") = some (.ref rm)) (hv : StrsAre vm (mineL k n)) (hm : (rm, listOf vm.toArray c1) ∈ led)
    (F : Fr h₀ L s.heap m) (N : News h₀ L s.heap led) :
    wpAny (model PR w) A (exec (stAt meetLoop 1) (meetEnv L)) (StA h₀ L m led s (Str.ofString "longer") fun v new => ∃ x vm c, v = .ref x ∧ (x, listOf (List.toArray vm) c) ∈ new ∧ StrsAre vm (longerL k n)) (fun _ _ => False) s := by
  obtain ⟨h, gens, dr, tk, os⟩ := s
  have F₁ := Fr.view (m' := fun y => if y = Str.ofString "mine" then some (.ref rm) else m y) F (fun y => by rw [put_eq em])
  have N₁ : News h₀ L h ((rm, listOf vm.toArray c1) :: led) := by
    intro p hp
    rcases List.mem_cons.mp hp with rfl | hp
    · exact N _ hm
    · exact N _ hp
  clear F N
  refine st_hide fun Q' hQ' => ?_
  unfold stAt meetLoop fnBody
  dsimp only [stm, PySem.Challenge.pw_rs0061_01, List.drop]
  obtain ⟨x, up, xs, hx, hlg, hup⟩ := mineL_cons hk hn
  have hln : vm.length < 100 := by rw [strs_length hv]; unfold mineL abcd; simp only [List.length_take, List.length_drop, List.length_cons, List.length_nil]; omega
  rw [hx] at hv
  cases hv with | cons _ t hv => ?_
  rename_i vr
  have hxl : x.length < 100 := by rcases hup with ⟨rfl, _⟩ | ⟨rfl, _⟩ | ⟨rfl, _⟩ | ⟨rfl, _⟩ <;> decide
  have hvr : vr.length + 1 < 100 := by simpa using hln
  k_steps
  rename Fr _ _ _ _ => F₈
  rename News _ _ _ _ => N₈
  refine unheld (slice_to_step (c := 1) F₈ N₈ (N₈ _ (.tail _ (.tail _ (.head _)))).1 rfl (by simpa using hln) fun h₉ r9 F₉ N₉ l9 => ?_)
  clear F₈ N₈
  replace N₉ : News h₀ L h₉ ((r9, listOf [Value.str x t].toArray 0) :: _) := N₉
  have hsz9 : (Value.str x t :: vr).length + 3 + 1 ≤ sizeLine := by rw [sizeLine_eq, List.length_cons]; omega
  k_lt l9
  k_steps
  rename Fr _ _ _ _ => F₂
  rename News _ _ _ _ => N₂
  refine hQ' _ _ ⟨_, [_, _, _, _], _, _, _, Fr.view F₂ (fun y => by rw [put_eq em]), news_fifth N₂, id, _, _, _, rfl, .head _, ?_⟩
  have hupx : Txt.upper x = up := by rcases hup with ⟨rfl, rfl⟩ | ⟨rfl, rfl⟩ | ⟨rfl, rfl⟩ | ⟨rfl, rfl⟩ <;> decide +kernel
  rw [hlg, ← hupx]
  exact strs_app (strs_app (.cons _ _ (by assumption)) (.cons _ _ (.cons _ _ (.cons _ _ .nil)))) (.cons _ _ .nil)

theorem meet_theirs {r1 : Addr} {c1 : Nat} {n0 n1 n2 n3 : Int} {t0 t1 t2 t3 : Tok} (ek : m (Str.ofString "k") = some (.int (k : Nat) ti)) (es : m (Str.ofString "others") = some (.ref r1))
    (hsp : [n0, n1, n2, n3][k]? = some (n : Int)) (hm : (r1, listOf #[.int n0 t0, .int n1 t1, .int n2 t2, .int n3 t3] c1) ∈ led)
    (F : Fr h₀ L s.heap m) (N : News h₀ L s.heap led) :
    wpAny (model PR w) A (exec (stAt meetLoop 2) (meetEnv L)) (StA h₀ L m led s (Str.ofString "theirs") fun v new => ∃ x vm c, v = .ref x ∧ (x, listOf (List.toArray vm) c) ∈ new ∧ StrsAre vm (theirsL k n)) (fun _ _ => False) s := by
  obtain ⟨h, gens, dr, tk, os⟩ := s
  have F₁ := Fr.view (m' := fun y => if y = Str.ofString "k" then some (.int (k : Nat) ti) else if y = Str.ofString "others" then some (.ref r1) else m y) F (fun y => by rw [put_eq es, put_eq ek])
  have N₁ : News h₀ L h ((r1, listOf #[.int n0 t0, .int n1 t1, .int n2 t2, .int n3 t3] c1) :: led) := by
    intro p hp
    rcases List.mem_cons.mp hp with rfl | hp
    · exact N _ hm
    · exact N _ hp
  clear F N
  refine st_hide fun Q' hQ' => ?_
  unfold stAt meetLoop fnBody
  dsimp only [stm, PySem.Challenge.pw_rs0061_01, List.drop]
  k_steps
  rename Fr _ _ _ _ => F₀
  rename News _ _ _ _ => N₀
  refine unheld (list_abcd F₀ N₀ (by rw [hAr]; rfl) fun h₂ tk₂ l2 a1 a2 a3 a4 c2 F₃ N₃ l3 => ?_)
  clear F₀ N₀
  k_lt l3
  k_steps
  rename News _ _ _ _ => N₂
  refine unheld (item4m (fun i v => ∀ x : Int, [n0, n1, n2, n3][i]? = some x → ∃ t, v = .int x t) N₂ (.tail _ (.head _)) hk (by intro x h; cases h; exact ⟨_, rfl⟩) (by intro x h; cases h; exact ⟨_, rfl⟩) (by intro x h; cases h; exact ⟨_, rfl⟩) (by intro x h; cases h; exact ⟨_, rfl⟩) fun v hv => ?_)
  obtain ⟨tn, rfl⟩ := hv _ hsp
  k_steps
  rename Fr _ _ _ _ => F₃
  rename News _ _ _ _ => N₃
  refine unheld (slice_ab_step (k := k) (c := n) F₃ N₃ (N₃ _ (.head _)).1 rfl rfl hkn (by show 4 < 100; decide) fun h₄ r4 F₄ N₄ l4 => ?_)
  clear F₃ N₃
  obtain ⟨vm, hmn, N₄⟩ : ∃ vm, StrsAre vm (mineL k n) ∧ News h₀ L h₄ ((r4, listOf vm.toArray 0) :: _) := ⟨_, strs_take (strs_drop (.cons _ _ (.cons _ _ (.cons _ _ (.cons _ _ .nil)))) k) n, N₄⟩
  have hml : vm.length < 100 := by rw [strs_length hmn]; unfold mineL abcd; simp only [List.length_take, List.length_drop, List.length_cons, List.length_nil]; omega
  k_lt l4
  k_steps
  rename Fr _ _ _ _ => F₆
  rename News _ _ _ _ => N₆
  have hl6 : Heap.IsList _ r4 vm.toArray := ⟨_, (N₆ _ (.head _)).1, rfl, _, rfl⟩
  refine unheld (krv_lit (its := vm.toArray) (zs := vm.reverse) F₆ N₆ hl6 (IsPart.int _ _) rfl (fun D h₇ F₇ N₇ l7 => ?_) (by with_unfolding_all rfl) (by intro _; with_unfolding_all rfl) (by rw [sizeLine_eq]; simp; omega))
  clear F₆ N₆ hl6
  have hsz7 : vm.reverse.length + 1 ≤ sizeLine := by rw [sizeLine_eq, List.length_reverse]; omega
  k_lt l7
  k_steps
  rename Fr _ _ _ _ => F₂
  rename News _ _ _ _ => N₂
  exact hQ' _ _ ⟨_, [_, _, _, _, _], _, _, _, Fr.view F₂ (fun y => by rw [put_eq es, put_eq ek]), news_sixth N₂, id, _, _, _, rfl, .head _, strs_app (strs_reverse (show StrsAre vm (mineL k n) by assumption)) (.cons _ _ .nil)⟩
end
end Mine

end

section
open PySem PySem.W PyProof.Rows PySem.Calls
namespace Mine
theorem reset_M8 : True := by w_top off; k_with_none; trivial
theorem lines_M8_0 : True := by
  k_with "execs cons" => ((refine' aft_flat ?e ?_; (case e => first | (dsimp only; done) | (dsimp only; exact rfl) | exact rfl); intro _ _ _))
  k_with "execs nil" => (refine wpAny_execs_nil ?_)
  k_with "exec If" => (refine wpAny_If ?_)
  k_with "Post next" => (first | refine aft_end (by with_reducible assumption) ?_ | refine aft_next (by with_reducible assumption) ?_)
  k_with "Post ret" => (refine aft_ret (by with_reducible assumption) ?_)
  k_with "Post brk" => (refine aft_brk (by with_reducible assumption) ?_)
  k_with "Post cont" => (refine aft_cont (by with_reducible assumption) ?_)
  k_with "GenPost ret" => (refine genPost_ret ?_)
  k_with "call" => (((with_reducible show wpAny _ _ (call (Value.type _) _) _ _ _); refine sub_A (by with_reducible assumption) ?_))
  trivial
inductive StP (h₀ : Heap) (L : Addr) (m : Str → Option Value) (ra : Addr) (its : Array Value) (own : List (Addr × Obj)) (s : Shared) : Flow → Shared → Prop
  | mk (h' : Heap) (tk' n' : Nat) (F : Fr h₀ L h' m) (N : News h₀ L h' ((ra, listOf its n') :: own)) : StP h₀ L m ra its own s .next ⟨h', s.gens, s.drawn, tk', s.os⟩
section
variable {w : World} {dp un : Nat} {gd : Option (List Code)} {base : Heap} {fr : List Env} {A : Around} {h₀ : Heap} {L : Addr} {s : Shared} {mean : ExcName → Option Value} {mg mb : Str → Option Value}
  (hAr : A = Around.deeper ⟨none, dp, some fr, gd, un⟩ (meetEnv L)) (hdp : dp + 8 < recursionLimit) (hun : un + 20 * 8 + 40 < cLine) (Bw : Below ⟨none, dp, some fr, gd, un⟩ base fr h₀) (X : (hd.heap_39 w.params).In h₀) (T : Top hd.view_39 (looseW hd.view_39 []) mean mg mb h₀)
  {m : Str → Option Value}
include hAr hdp hun Bw X T
theorem meet_push {ra : Addr} {its : Array Value} {n c : Nat} {tc : Tok} {own : List (Addr × Obj)} (em : m (Str.ofString "meet") = some (.ref ra)) (es : m (Str.ofString "size") = some (.int (c : Nat) tc)) (hsz : its.size < 2000) (hc : c < 100)
    (hoff : OwnOff own [ra]) (F : Fr h₀ L s.heap m) (N : News h₀ L s.heap ((ra, listOf its n) :: own)) :
    wpAny (model PR w) A (exec (stAt meetLoop 11) (meetEnv L))
      (StP h₀ L m ra (its.push (.int (c : Nat) tc)) own s) (fun _ _ => False) s := by
  obtain ⟨h, gens, dr, tk, os⟩ := s
  have F₁ := Fr.view (m' := fun y => if y = Str.ofString "meet" then some (.ref ra) else if y = Str.ofString "size" then some (.int (c : Nat) tc) else m y) F (fun y => by rw [put_eq es, put_eq em])
  clear F
  refine st_hide fun Q' hQ' => ?_
  unfold stAt meetLoop fnBody
  dsimp only [stm, PySem.Challenge.pw_rs0061_01, List.drop]
  k_steps
  rename Fr h₀ _ _ _ => F₂
  rename News h₀ _ _ _ => N₂
  try dsimp only
  exact hQ' _ _ ⟨_, _, _, Fr.view F₂ (fun y => by rw [put_eq es, put_eq em]), N₂⟩
end
end Mine

end

section
open PySem PySem.W PyProof.Rows PySem.Calls
namespace Mine
noncomputable def kab (P : Nat → Nat → Nat → Bool) : Bool := (List.range 4).all fun k => (List.range 5).all fun a => (List.range 5).all fun b => !(decide (1 ≤ a) && decide (1 ≤ b) && decide (k + a ≤ 4) && decide (k + b ≤ 4)) || P k a b
theorem kab_of {P : Nat → Nat → Nat → Bool} (h : kab P = true) {k a b : Nat} (h1 : 1 ≤ a) (h2 : 1 ≤ b) (h3 : k + a ≤ 4) (h4 : k + b ≤ 4) : P k a b = true := by
  have h5 := List.all_eq_true.mp (List.all_eq_true.mp (List.all_eq_true.mp h k (List.mem_range.mpr (by omega))) a (List.mem_range.mpr (by omega))) b (List.mem_range.mpr (by omega))
  simpa [h1, h2, h3, h4] using h5
theorem filter_is {k a b : Nat} (h1 : 1 ≤ a) (h2 : 1 ≤ b) (h3 : k + a ≤ 4) (h4 : k + b ≤ 4) : (longerL k a).filter ((theirsL k b).contains ·) = (mineL k a).take (min a b) ++ (mineL k a).take 1 :=
  of_decide_eq_true (kab_of (P := fun k a b => decide ((longerL k a).filter ((theirsL k b).contains ·) = (mineL k a).take (min a b) ++ (mineL k a).take 1)) (by decide +kernel) h1 h2 h3 h4)
theorem filter_len {k a b : Nat} (h1 : 1 ≤ a) (h2 : 1 ≤ b) (h3 : k + a ≤ 4) (h4 : k + b ≤ 4) : ((mineL k a).take (min a b) ++ (mineL k a).take 1).length = min a b + 1 :=
  of_decide_eq_true (kab_of (P := fun k a b => decide (((mineL k a).take (min a b) ++ (mineL k a).take 1).length = min a b + 1)) (by decide +kernel) h1 h2 h3 h4)
theorem oks_all {l : List Str} (h : l.all PyData.strOk = true) : Oks l := fun x hx => List.all_eq_true.mp h x hx
theorem oks_longer {k a b : Nat} (h1 : 1 ≤ a) (h2 : 1 ≤ b) (h3 : k + a ≤ 4) (h4 : k + b ≤ 4) : Oks (longerL k a) :=
  oks_all (kab_of (P := fun k a _ => (longerL k a).all PyData.strOk) (by decide +kernel) h1 h2 h3 h4)
theorem oks_theirs {k a b : Nat} (h1 : 1 ≤ a) (h2 : 1 ≤ b) (h3 : k + a ≤ 4) (h4 : k + b ≤ 4) : Oks (theirsL k b) :=
  oks_all (kab_of (P := fun k _ b => (theirsL k b).all PyData.strOk) (by decide +kernel) h1 h2 h3 h4)
theorem oks_due {k a b : Nat} (h1 : 1 ≤ a) (h2 : 1 ≤ b) (h3 : k + a ≤ 4) (h4 : k + b ≤ 4) : Oks ((mineL k a).take (min a b) ++ (mineL k a).take 1) :=
  oks_all (kab_of (P := fun k a b => ((mineL k a).take (min a b) ++ (mineL k a).take 1).all PyData.strOk) (by decide +kernel) h1 h2 h3 h4)
theorem len_mine4 {k a : Nat} : (mineL k a).length ≤ 4 := Nat.le_trans (List.length_take_le' _ _) (by rw [List.length_drop]; exact Nat.sub_le _ _)
theorem len_longer {k a : Nat} : (longerL k a).length < 100 := by
  have h1 := len_mine4 (k := k) (a := a)
  have h2 := List.length_take_le 1 (upL.drop k)
  have h3 := List.length_take_le 1 (dblL.drop k)
  have h4 := List.length_take_le 1 (mineL k a)
  unfold longerL
  rw [List.length_append, List.length_append, List.length_append, List.length_append, List.length_singleton]
  exact Nat.lt_of_le_of_lt (Nat.add_le_add (Nat.add_le_add h1 (Nat.add_le_add_right (Nat.add_le_add h2 h3) 1)) h4) (by decide)
theorem len_theirs {k a : Nat} : (theirsL k a).length < 100 := by
  unfold theirsL
  rw [List.length_append, List.length_reverse, List.length_singleton]
  exact Nat.lt_of_le_of_lt (Nat.add_le_add_right len_mine4 1) (by decide)
theorem len_mine {k a : Nat} : (mineL k a).length < 100 := Nat.lt_of_le_of_lt len_mine4 (by decide)
theorem pick1_ok : ∀ k, PyData.strOk ((dl1 k).pick (dl2 k)).txt = true
  | 0 => by decide +kernel
  | 1 => by decide +kernel
  | 2 => by decide +kernel
  | _ + 3 => by show PyData.strOk (Str.ofString "None") = true; decide +kernel
theorem pick2_ok : ∀ k, PyData.strOk ((rt1 k).pick (rt2 k)).txt = true
  | 0 => by decide +kernel
  | 1 => by decide +kernel
  | 2 => by decide +kernel
  | _ + 3 => by show PyData.strOk (Str.ofString "None") = true; decide +kernel
section
variable {w : World} {dp un : Nat} {gd : Option (List Code)} {base : Heap} {fr : List Env} {A : Around} {h₀ : Heap} {L : Addr} {s : Shared} {mean : ExcName → Option Value} {mg mb : Str → Option Value}
  (hAr : A = Around.deeper ⟨none, dp, some fr, gd, un⟩ (meetEnv L)) (hdp : dp + 8 < recursionLimit) (hun : un + 20 * 8 + 40 < cLine) (Bw : Below ⟨none, dp, some fr, gd, un⟩ base fr h₀) (X : (hd.heap_39 w.params).In h₀) (T : Top hd.view_39 (looseW hd.view_39 []) mean mg mb h₀)
include hAr hdp hun Bw X T
theorem meet_turn {k nA nB : Nat} {ti : Tok} (hk : k < 4) (hA : 1 ≤ nA) (hB : 1 ≤ nB) (hkA : k + nA ≤ 4) (hkB : k + nB ≤ 4) {a b : List Nat} {ta tb : Tok} (hla : a.length < 100) (hlb : b.length < 100) (ka : Oks (signs (S a))) (kb : Oks (signs (S b)))
    {ra r1 r2 : Addr} {its : Array Value} {n c1 c2 : Nat} {A0 A1 A2 A3 B0 B1 B2 B3 : Int} {t0 t1 t2 t3 u0 u1 u2 u3 : Tok} {own : List (Addr × Obj)} {m : Str → Option Value}
    (hsA : [A0, A1, A2, A3][k]? = some (nA : Int)) (hsB : [B0, B1, B2, B3][k]? = some (nB : Int)) (hsz : its.size < 2000)
    (hoff : OwnOff own [ra, r1, r2]) (h01 : ra ≠ r1) (h02 : ra ≠ r2)
    (ek : m (Str.ofString "k") = some (.int (k : Nat) ti)) (e1 : m (Str.ofString "one") = some (.str (S a) ta)) (e2 : m (Str.ofString "two") = some (.str (S b) tb)) (e3 : m (Str.ofString "spans") = some (.ref r1)) (e4 : m (Str.ofString "others") = some (.ref r2)) (e5 : m (Str.ofString "meet") = some (.ref ra))
    (F : Fr h₀ L s.heap m)
    (N : News h₀ L s.heap ((ra, listOf its n) :: (r1, listOf #[.int A0 t0, .int A1 t1, .int A2 t2, .int A3 t3] c1) :: (r2, listOf #[.int B0 u0, .int B1 u1, .int B2 u2, .int B3 u3] c2) :: own)) {Q : Flow → Shared → Prop}
    (hQ : ∀ h' tk' g' m' n' t, Fr h₀ L h' m' → News h₀ L h' ((ra, listOf (its.push (.int (min nA nB : Nat) t)) n') :: (r1, listOf #[.int A0 t0, .int A1 t1, .int A2 t2, .int A3 t3] c1) :: (r2, listOf #[.int B0 u0, .int B1 u1, .int B2 u2, .int B3 u3] c2) :: own) → (AllBare s.gens → AllBare g') →
      m' (Str.ofString "one") = some (.str (S a) ta) → m' (Str.ofString "two") = some (.str (S b) tb) → m' (Str.ofString "spans") = some (.ref r1) → m' (Str.ofString "others") = some (.ref r2) → m' (Str.ofString "meet") = some (.ref ra) → Q .next ⟨h', g', s.drawn, tk', s.os⟩) :
    wpAny (model PR w) A (execs meetLoop (meetEnv L)) Q (fun _ _ => False) s := by
  replace F := Fr.view (m' := fun y => if y = Str.ofString "k" then some (.int (k : Nat) ti) else if y = Str.ofString "one" then some (.str (S a) ta) else if y = Str.ofString "two" then some (.str (S b) tb) else if y = Str.ofString "spans" then some (.ref r1) else if y = Str.ofString "others" then some (.ref r2) else if y = Str.ofString "meet" then some (.ref ra) else m y) F (fun y => by rw [put_eq e5, put_eq e4, put_eq e3, put_eq e2, put_eq e1, put_eq ek])
  clear ek e1 e2 e3 e4 e5
  obtain ⟨led0, e0⟩ : ∃ led0, led0 = ((ra, listOf its n) :: (r1, listOf #[.int A0 t0, .int A1 t1, .int A2 t2, .int A3 t3] c1) :: (r2, listOf #[.int B0 u0, .int B1 u1, .int B2 u2, .int B3 u3] c2) :: own) := ⟨_, rfl⟩
  have mm1 : (r1, listOf #[.int A0 t0, .int A1 t1, .int A2 t2, .int A3 t3] c1) ∈ led0 := by rw [e0]; exact .tail _ (.head _)
  have mm2 : (r2, listOf #[.int B0 u0, .int B1 u1, .int B2 u2, .int B3 u3] c2) ∈ led0 := by rw [e0]; exact .tail _ (.tail _ (.head _))
  rw [← e0] at N
  have hn4 : min nA nB < 100 := by omega
  refine stA_seq (st := stAt meetLoop 0) (rest := meetLoop.drop 1) rfl (meet_mine hAr hdp hun Bw X T hk hA hkA rfl rfl hsA mm1 F N) fun v new1 h₁ tk₁ g₁ P F₁ N₁ b₁ => ?_
  obtain ⟨xm, vm, cm, rfl, mm, hvm⟩ := P
  refine stA_seq (st := stAt meetLoop 1) (rest := meetLoop.drop 2) rfl (meet_longer (s := ⟨h₁, g₁, s.drawn, tk₁, s.os⟩) hAr hdp hun Bw X T hk hA hkA rfl hvm (List.mem_append.mpr (.inl mm)) F₁ N₁) fun v new2 h₂ tk₂ g₂ P F₂ N₂ b₂ => ?_
  obtain ⟨xl, vl, cl, rfl, ml, hvl⟩ := P
  refine stA_seq (st := stAt meetLoop 2) (rest := meetLoop.drop 3) rfl (meet_theirs (s := ⟨h₂, g₂, s.drawn, tk₂, s.os⟩) hAr hdp hun Bw X T hk hB hkB rfl rfl hsB (List.mem_append.mpr (.inr (List.mem_append.mpr (.inr mm2)))) F₂ N₂) fun v new3 h₃ tk₃ g₃ P F₃ N₃ b₃ => ?_
  obtain ⟨xt, vt, ct, rfl, mt, hvt⟩ := P
  have ll : vl.length < 100 := by rw [strs_length hvl]; exact len_longer
  have lt : vt.length < 100 := by rw [strs_length hvt]; exact len_theirs
  have lm : vm.length < 100 := by rw [strs_length hvm]; exact len_mine
  refine stA_seq (st := stAt meetLoop 3) (rest := meetLoop.drop 4) rfl (meet_first (s := ⟨h₃, g₃, s.drawn, tk₃, s.os⟩) hAr hdp hun Bw X T hk hla hvl ll rfl rfl rfl F₃ N₃ (List.mem_append.mpr (.inr (List.mem_append.mpr (.inl ml))))) fun v new4 h₄ tk₄ g₄ P F₄ N₄ b₄ => ?_
  obtain ⟨x1, dlA, rtA, rfl, pA, qA, RA⟩ := P
  refine stA_seq (st := stAt meetLoop 4) (rest := meetLoop.drop 5) rfl (meet_second (s := ⟨h₄, g₄, s.drawn, tk₄, s.os⟩) hAr hdp hun Bw X T hk hlb hvt lt rfl rfl rfl F₄ N₄ (List.mem_append.mpr (.inr (List.mem_append.mpr (.inl mt))))) fun v new5 h₅ tk₅ g₅ P F₅ N₅ b₅ => ?_
  obtain ⟨x2, dlB, rtB, rfl, pB, qB, RB⟩ := P
  have RA' := RecIn.of (led := new5 ++ (new4 ++ (new3 ++ (new2 ++ (new1 ++ led0))))) pA qA RA fun z hz => List.mem_append.mpr (.inr (List.mem_append.mpr (.inl hz)))
  have RB' := RecIn.of (led := new5 ++ (new4 ++ (new3 ++ (new2 ++ (new1 ++ led0))))) pB qB RB fun z hz => List.mem_append.mpr (.inl hz)
  have la : (signs (S a)).length < 100 := by rw [signs_length, S_len]; exact hla
  have lb : (signs (S b)).length < 100 := by rw [signs_length, S_len]; exact hlb
  refine stA_seq (st := stAt meetLoop 5) (rest := meetLoop.drop 6) rfl (meet_merged (s := ⟨h₅, g₅, s.drawn, tk₅, s.os⟩) hAr hdp hun Bw X T rfl rfl RA' RB' len_longer len_theirs la lb F₅ N₅) fun v new6 h₆ tk₆ g₆ P F₆ N₆ b₆ => ?_
  obtain ⟨x3, rfl, R3⟩ := P
  rw [filter_is hA hB hkA hkB] at R3
  refine stA_seq (st := stAt meetLoop 6) (rest := meetLoop.drop 7) rfl (meet_size (s := ⟨h₆, g₆, s.drawn, tk₆, s.os⟩) hAr hdp hun Bw X T rfl (R3.mono fun z hz => List.mem_append.mpr (.inl hz)) (min nA nB) (filter_len hA hB hkA hkB) hn4 F₆ N₆) fun v new7 h₇ tk₇ g₇ P F₇ N₇ b₇ => ?_
  obtain ⟨⟨tz, rfl⟩, rfl⟩ := P
  rw [List.nil_append] at N₇
  refine stA_seq (st := stAt meetLoop 7) (rest := meetLoop.drop 8) rfl (meet_due (s := ⟨h₇, g₇, s.drawn, tk₇, s.os⟩) hAr hdp hun Bw X T hk hla hlb hvm lm hn4 rfl rfl rfl rfl rfl F₇ N₇ (List.mem_append.mpr (.inr (List.mem_append.mpr (.inr (List.mem_append.mpr (.inr (List.mem_append.mpr (.inr (List.mem_append.mpr (.inr (List.mem_append.mpr (.inl mm))))))))))))) fun v new8 h₈ tk₈ g₈ P F₈ N₈ b₈ => ?_
  obtain ⟨xd, rfl, TD⟩ := P
  have ka' : Oks (signs (S a) ++ signs (S b)) := fun x hx => (List.mem_append.mp hx).elim (ka x) (kb x)
  refine stI_seq (st := stAt meetLoop 8) (rest := meetLoop.drop 9) rfl (meet_told (s := ⟨h₈, g₈, s.drawn, tk₈, s.os⟩) hAr hdp hun Bw X T rfl rfl (R3.mono fun z hz => List.mem_append.mpr (.inr (List.mem_append.mpr (.inl hz)))) (TD.mono fun z hz => List.mem_append.mpr (.inl hz)) (oks_due hA hB hkA hkB) ka' (pick1_ok k) (pick2_ok k) F₈ N₈) fun h₉ tk₉ g₉ F₉ N₉ b₉ => ?_
  refine stI_seq (st := stAt meetLoop 9) (rest := meetLoop.drop 10) rfl (meet_told1 (s := ⟨h₉, g₉, s.drawn, tk₉, s.os⟩) hAr hdp hun Bw X T hk hla rfl rfl rfl rfl (RA'.mono fun z hz => List.mem_append.mpr (.inr (List.mem_append.mpr (.inr hz)))) hvl (List.mem_append.mpr (.inr (List.mem_append.mpr (.inr (List.mem_append.mpr (.inr (List.mem_append.mpr (.inr (List.mem_append.mpr (.inr (List.mem_append.mpr (.inl ml)))))))))))) (oks_longer hA hB hkA hkB) ka F₉ N₉) fun h₁₀ tk₁₀ g₁₀ F₁₀ N₁₀ b₁₀ => ?_
  refine stI_seq (st := stAt meetLoop 10) (rest := meetLoop.drop 11) rfl (meet_told2 (s := ⟨h₁₀, g₁₀, s.drawn, tk₁₀, s.os⟩) hAr hdp hun Bw X T hk hlb rfl rfl rfl rfl (RB'.mono fun z hz => List.mem_append.mpr (.inr (List.mem_append.mpr (.inr hz)))) hvt (List.mem_append.mpr (.inr (List.mem_append.mpr (.inr (List.mem_append.mpr (.inr (List.mem_append.mpr (.inr (List.mem_append.mpr (.inl mt)))))))))) (oks_theirs hA hB hkA hkB) kb F₁₀ N₁₀) fun h₁₁ tk₁₁ g₁₁ F₁₁ N₁₁ b₁₁ => ?_
  have N₁₂ : News h₀ L h₁₁ ((ra, listOf its n) :: (r1, listOf #[.int A0 t0, .int A1 t1, .int A2 t2, .int A3 t3] c1) :: (r2, listOf #[.int B0 u0, .int B1 u1, .int B2 u2, .int B3 u3] c2) :: own) :=
    e0 ▸ news_sub N₁₁ fun p hp => List.mem_append.mpr (.inr (List.mem_append.mpr (.inr (List.mem_append.mpr (.inr (List.mem_append.mpr (.inr (List.mem_append.mpr (.inr (List.mem_append.mpr (.inr (List.mem_append.mpr (.inr hp)))))))))))))
  have off' : OwnOff ((r1, listOf #[.int A0 t0, .int A1 t1, .int A2 t2, .int A3 t3] c1) :: (r2, listOf #[.int B0 u0, .int B1 u1, .int B2 u2, .int B3 u3] c2) :: own) [ra] := fun p hp b hb => by
    rw [List.mem_singleton] at hb; subst hb
    rcases List.mem_cons.mp hp with rfl | hp
    · exact h01.symm
    rcases List.mem_cons.mp hp with rfl | hp
    · exact h02.symm
    · exact hoff p hp _ (.head _)
  rw [show meetLoop.drop 11 = [stAt meetLoop 11] from rfl]
  refine wpAny_execs_cons (wpAny_mono (meet_push (s := ⟨h₁₁, g₁₁, s.drawn, tk₁₁, s.os⟩) hAr hdp hun Bw X T rfl rfl hsz hn4 off' F₁₁ N₁₂) (fun f s' hf => ?_) fun _ _ x => x)
  obtain ⟨h', tk', n', F', N'⟩ := hf
  refine wpAny_execs_nil ?_
  exact hQ h' tk' g₁₁ _ n' tz F' N' (fun hb => b₁₁ (b₁₀ (b₉ (b₈ (b₇ (b₆ (b₅ (b₄ (b₃ (b₂ (b₁ hb))))))))))) rfl rfl rfl rfl rfl
end
end Mine

end

section
open PySem PySem.W PyProof.Rows PySem.Calls
namespace Mine
theorem reset_M10 : True := by w_top off; k_with_none; trivial
theorem lines_M10_0 : True := by
  k_with "execs cons" => ((refine' aft_flat ?e ?_; (case e => first | (dsimp only; done) | (dsimp only; exact rfl) | exact rfl); intro _ _ _))
  k_with "execs nil" => (refine wpAny_execs_nil ?_)
  k_with "exec If" => (refine wpAny_If ?_)
  k_with "Post next" => (first | refine aft_end (by with_reducible assumption) ?_ | refine aft_next (by with_reducible assumption) ?_)
  k_with "Post ret" => (refine aft_ret (by with_reducible assumption) ?_)
  k_with "Post brk" => (refine aft_brk (by with_reducible assumption) ?_)
  k_with "Post cont" => (refine aft_cont (by with_reducible assumption) ?_)
  k_with "GenPost ret" => (refine genPost_ret ?_)
  k_with "call" => (((with_reducible show wpAny _ _ (call (Value.type _) _) _ _ _); refine sub_A (by with_reducible assumption) ?_))
  k_with "exec For Name Call cons nil" => (refine held ?_)
  k_with "pyIter ref" => (refine held ?_)
  trivial
inductive meetJ (a b : List Nat) (ta tb : Tok) (r1 r2 r3 : Addr) (i1 i2 : Array Value) (n1 n2 : Nat) (A B : List Int) (i : Nat) (m : Str → Option Value) (mine : List (Addr × Obj)) : Prop
  | mk (its : Array Value) (n : Nat) (e : mine = [(r3, listOf its n), (r1, listOf i1 n1), (r2, listOf i2 n2)]) (h : IntsAre its.toList ((List.zipWith min A B).take i)) (z : its.size ≤ i) (e1 : m (Str.ofString "one") = some (.str (S a) ta)) (e2 : m (Str.ofString "two") = some (.str (S b) tb))
    (e3 : m (Str.ofString "spans") = some (.ref r1)) (e4 : m (Str.ofString "others") = some (.ref r2)) (e5 : m (Str.ofString "meet") = some (.ref r3))
theorem ints_cons {l : List Value} {a : Int} {r : List Int} (h : IntsAre l (a :: r)) : ∃ t l', l = .int a t :: l' ∧ IntsAre l' r := by
  cases h with | cons _ t h => exact ⟨t, _, rfl, h⟩
theorem ints_nil {l : List Value} (h : IntsAre l []) : l = [] := by cases h; rfl
theorem ints4 {i : Array Value} {A0 A1 A2 A3 : Int} (h : IntsAre i.toList [A0, A1, A2, A3]) : ∃ t0 t1 t2 t3, i = #[.int A0 t0, .int A1 t1, .int A2 t2, .int A3 t3] := by
  obtain ⟨l⟩ := i
  obtain ⟨t0, l0, e, h0⟩ := ints_cons (l := l) h
  obtain ⟨t1, l1, rfl, h1⟩ := ints_cons h0
  obtain ⟨t2, l2, rfl, h2⟩ := ints_cons h1
  obtain ⟨t3, l3, rfl, h3⟩ := ints_cons h2
  rw [e, ints_nil h3]
  exact ⟨t0, t1, t2, t3, rfl⟩
theorem len4 {A : List Int} (h : A.length = 4) : ∃ a b c d, A = [a, b, c, d] := by
  exact list_four h
theorem take_push {A B : List Int} {i : Nat} {x y : Int} (hx : A[i]? = some x) (hy : B[i]? = some y) : (List.zipWith min A B).take (i + 1) = (List.zipWith min A B).take i ++ [min x y] := by
  rw [List.take_add_one]
  congr 1
  rw [List.getElem?_zipWith, hx, hy]; rfl
theorem meet_ct (w : World) (a b d : List Nat) (ta tb td : Tok) (hla : a.length < 100) (hlb : b.length < 100) (hld : d.length < 100) (ka : Oks (signs (S a))) (kb : Oks (signs (S b))) (A B : List Int) (hA : spansL a d = A) (hB : spansL b d = B) (hA4 : A.length = 4) (hB4 : B.length = 4)
    (hAb : ∀ (k : Nat) (n : Int), A[k]? = some n → 1 ≤ n ∧ n ≤ 4 - (k : Int)) (hBb : ∀ (k : Nat) (n : Int), B[k]? = some n → 1 ≤ n ∧ n ≤ 4 - (k : Int)) :
    Ct 8 w 133 [.str (S a) ta, .str (S b) tb, .str (S d) td] (ListR fun its => IntsAre its.toList (List.zipWith min A B)) := by
  refine ct_enter (binds := [(Str.ofString "one", .str (S a) ta), (Str.ofString "two", .str (S b) tb), (Str.ofString "dress", .str (S d) td)]) (by k_is) (by k_is) (by rfl) (locs (by rfl)) ?_
  intro dp un gd base fr s h₁ tk mean mg mb Ar L hAr hz hdp hun Bw X T F N
  have hla' : (S a).length < 100 := by rw [S_len]; exact hla
  have hlb' : (S b).length < 100 := by rw [S_len]; exact hlb
  k_steps
  refine use_ct hAr (spans_ct w a d ta td hla hld) Bw F X N T rfl rfl (by show dp + (7 + 1) < _; omega) (by show un + 20 * 7 + 43 < _; omega) ?_
  rintro v new h₂ tk₂ g₂ ⟨r1, i1, n1, q1⟩ F₂ N₂ - hb₂
  clear F N
  simp only [List.nil_append] at N₂
  try dsimp only
  k_steps
  rename Fr s.heap _ _ _ => F₃
  rename News s.heap _ _ _ => N₃
  refine use_ct hAr (spans_ct w b d tb td hlb hld) Bw F₃ X N₃ T rfl rfl (by show dp + (7 + 1) < _; omega) (by show un + 20 * 7 + 43 < _; omega) ?_
  rintro v new h₄ tk₄ g₄ ⟨r2, i2, n2, q2⟩ F₄ N₄ off₄ hb₄
  clear F₃ N₃
  simp only [List.cons_append, List.nil_append] at N₄
  try dsimp only
  k_steps
  refine unheld (wpAny_For ?_)
  k_steps
  refine unheld ?_
  rename IsRange _ _ _ _ _ _ _ _ => hr
  rename_i ra _ lo _ _ _ _ _ _ _ _ _ _ _ _ _ _
  rename Fr s.heap _ _ _ => F₅
  rename News s.heap _ _ _ => N₅
  rw [hA] at q1
  rw [hB] at q2
  obtain ⟨A0, A1, A2, A3, rfl⟩ := len4 hA4
  obtain ⟨B0, B1, B2, B3, rfl⟩ := len4 hB4
  obtain ⟨t0, t1, t2, t3, rfl⟩ := ints4 q1
  obtain ⟨u0, u1, u2, u3, rfl⟩ := ints4 q2
  refine range_loop (a := 0) (b := 4) hr rfl rfl (by decide) (by decide) hz (meetJ a b ta tb r1 r2 ra _ _ n1 n2 [A0, A1, A2, A3] [B0, B1, B2, B3]) rfl rfl F₅ N₅ ⟨_, _, rfl, .nil, Nat.le_refl _, rfl, rfl, rfl, rfl, rfl⟩ ?_ ?_
  · rintro i ti m₁ mine₁ own h gens tk hi ⟨its, n, rfl, hits, hsz, e1, e2, e3, e4, e5⟩ _ hoff hbare F₆ N₆
    rw [Nat.zero_add] at F₆ hi
    simp only [List.cons_append, List.nil_append] at N₆
    dsimp only [List.map] at hoff
    clear F₅ N₅ hr q1 q2
    have hsz' : its.size < 2000 := by omega
    obtain ⟨x, hx⟩ : ∃ x, [A0, A1, A2, A3][i]? = some x := ⟨_, List.getElem?_eq_getElem (by simpa using hi)⟩
    obtain ⟨y, hy⟩ : ∃ y, [B0, B1, B2, B3][i]? = some y := ⟨_, List.getElem?_eq_getElem (by simpa using hi)⟩
    have hx2 := hAb i x hx
    have hy2 := hBb i y hy
    obtain ⟨nA, rfl⟩ : ∃ n : Nat, x = (n : Int) := ⟨x.toNat, by omega⟩
    obtain ⟨nB, rfl⟩ : ∃ n : Nat, y = (n : Int) := ⟨y.toNat, by omega⟩
    refine meet_turn (s := ⟨h, gens, s.drawn, tk, s.os⟩) (m := fun y => if y = Str.ofString "k" then some (.int (i : Nat) ti) else m₁ y) hAr hdp hun Bw X T hi (by omega) (by omega) (by omega) (by omega) hla hlb ka kb hx hy hsz' hoff (Nat.ne_of_gt lo.1) (Nat.ne_of_gt lo.2) rfl e1 e2 e3 e4 e5 F₆ N₆ ?_
    intro h' tk' g' m' n' t F' N' hb' f1 f2 f3 f4 f5
    refine turn_next [_, _, _] F' N' rfl ⟨_, _, rfl, ?_, ?_, f1, f2, f3, f4, f5⟩ fun hb => hb' (hbare hb)
    · rw [take_push hx hy]
      have e : ((min nA nB : Nat) : Int) = min (nA : Int) (nB : Int) := by omega
      rw [← e]
      exact ints_push hits
    · simp only [Array.size_push]; omega
  · rintro m₁ mine₁ h gens tk ⟨its, n, rfl, hits, hsz, e1, e2, e3, e4, e5⟩ _ hbare F₆ N₆
    have F₇ := Fr.view (m' := fun y => if y = Str.ofString "meet" then some (.ref ra) else m₁ y) F₆ (fun y => by rw [put_eq e5])
    clear F₅ N₅ F₆ hr
    try dsimp only
    k_steps
    try dsimp only
    exact done_of F₇ N₆ ⟨ra, its, n, hits⟩ (fun p hp => by rw [List.mem_singleton.mp hp]; exact .head _) fun hb => hbare (hb₄ (hb₂ hb))
end Mine

end

section
open PySem PySem.W PyProof.Rows PySem.Calls
namespace Mine
section
variable {w : World} {A : Around} {h₀ : Heap} {env : Env} {s : Shared} {R : Result → Shared → Prop} {E : Value → Shared → Prop}
/-- a loop over a list of the ledger that stays as it is -/
theorem list_fixE {x : Str} {px : Pos} {body : List Stmt} {l c : Nat} {items : Array Value} {m : Str → Option Value} {mine fixed : List (Addr × Obj)}
    (hl : (l, listOf items c) ∈ fixed) (hlm : l ∉ mine.map (·.1)) (hh : A.handled = none)
    (J : Nat → (Str → Option Value) → List (Addr × Obj) → Prop) (hk : env.scope.kind = .function)
    (hx : env.kindOf x = some .local)
    (F : Fr h₀ env.locals s.heap m) (N : News h₀ env.locals s.heap (mine ++ fixed)) (hj : J 0 m mine)
    (turn : ∀ i v m₁ mine₁ own h gens tk, items[i]? = some v → J i m₁ mine₁ → mine₁.map (·.1) = mine.map (·.1) → OwnOff own (mine.map (·.1)) → (AllBare s.gens → AllBare gens) →
      Fr h₀ env.locals h (fun y => if y = x then some v else m₁ y) → News h₀ env.locals h (mine₁ ++ (fixed ++ own)) →
      wpAny (model PR w) A (execs body env) (TurnPost R (TurnEnd h₀ env.locals (fixed ++ own) (mine.map (·.1)) (J (i + 1)) s)) (fun _ _ => False) ⟨h, gens, s.drawn, tk, s.os⟩)
    (done : ∀ m₁ mine₁ h gens tk, J items.size m₁ mine₁ → mine₁.map (·.1) = mine.map (·.1) → (AllBare s.gens → AllBare gens) → Fr h₀ env.locals h m₁ → News h₀ env.locals h (mine₁ ++ fixed) → R (.ok .next) ⟨h, gens, s.drawn, tk, s.os⟩) :
    wpAny (model PR w) A (pyIter (.ref l)) (fun it s₂ => codeAny (model PR w) A (.forLoop (.Name x px) it body [] env) R s₂) E s := by
  have hN := N _ (List.mem_append.mpr (.inr hl))
  have hil : s.heap.IsList l items := ⟨_, hN.1, rfl, c, rfl⟩
  refine wpAny_pyIter_list hil ?_
  obtain ⟨o1, o2, o3⟩ := next_off F N
  have hne : l ≠ s.heap.objs.size := Nat.ne_of_lt (Heap.lt_size hN.1)
  have W := Walks.list (prog := PR) (w := w) hh s.heap.objs.size l hne items
  refine loop_fixE (s := ⟨_, s.gens, s.drawn, s.toks, s.os⟩) (fixed := fixed) W J hk hx (by simp only [List.mem_cons, List.not_mem_nil, or_false]; exact fun h => h.elim o1 (fun e => hN.2.1 e.symm)) (by simpa using o2)
    (fun c hc => by simp only [List.mem_cons, List.not_mem_nil, or_false]; exact fun h => h.elim (o3 c (by rw [List.map_append]; exact List.mem_append.mpr (.inl hc))) (fun e => hlm (e ▸ hc)))
    (fun c hc => by rw [List.mem_singleton]; exact o3 c (by rw [List.map_append]; exact List.mem_append.mpr (.inr hc))) ?_ (F.push _) (fun p hp => ⟨Heap.get?_push_of_some _ (N p hp).1, (N p hp).2⟩) hj ?_ done
  · exact ⟨⟨_, Heap.get?_push_size _ rfl, rfl, rfl⟩, hil.at fun o e => Heap.get?_push_of_some _ e⟩
  · exact fun i v m₁ mine₁ own h gens tk _ hv hJ adr off hbare F₁ N₁ => turn i v m₁ mine₁ own h gens tk hv hJ adr off hbare F₁ N₁
end
section
variable {w : World} {A : Around} {h₀ : Heap} {name : Str} {scope : Scope} {L a₀ : Addr} {cd : Value} {s : Shared} {R : Result → Shared → Prop} {E : Value → Shared → Prop}

/-- a loop over a list of the ledger that stays as it is -/
theorem list_fix {x : Str} {px : Pos} {body : List Stmt} {l c : Nat} {items : Array Value} {m : Str → Option Value} {mine fixed : List (Addr × Obj)}
    (hl : (l, listOf items c) ∈ fixed) (hlm : l ∉ mine.map (·.1)) (hh : A.handled = none)
    (J : Nat → (Str → Option Value) → List (Addr × Obj) → Prop) (hk : scope.kind = .function)
    (hx : (envOf name scope L a₀ cd).kindOf x = some .local)
    (F : Fr h₀ L s.heap m) (N : News h₀ L s.heap (mine ++ fixed)) (hj : J 0 m mine)
    (turn : ∀ i v m₁ mine₁ own h gens tk, items[i]? = some v → J i m₁ mine₁ → mine₁.map (·.1) = mine.map (·.1) → OwnOff own (mine.map (·.1)) → (AllBare s.gens → AllBare gens) →
      Fr h₀ L h (fun y => if y = x then some v else m₁ y) → News h₀ L h (mine₁ ++ (fixed ++ own)) →
      wpAny (model PR w) A (execs body (envOf name scope L a₀ cd)) (TurnPost R (TurnEnd h₀ L (fixed ++ own) (mine.map (·.1)) (J (i + 1)) s)) (fun _ _ => False) ⟨h, gens, s.drawn, tk, s.os⟩)
    (done : ∀ m₁ mine₁ h gens tk, J items.size m₁ mine₁ → mine₁.map (·.1) = mine.map (·.1) → (AllBare s.gens → AllBare gens) → Fr h₀ L h m₁ → News h₀ L h (mine₁ ++ fixed) → R (.ok .next) ⟨h, gens, s.drawn, tk, s.os⟩) :
    wpAny (model PR w) A (pyIter (.ref l)) (fun it s₂ => codeAny (model PR w) A (.forLoop (.Name x px) it body [] (envOf name scope L a₀ cd)) R s₂) E s :=
  list_fixE (env := envOf name scope L a₀ cd) hl hlm hh J hk hx F N hj turn done
end
end Mine

end

section
open PySem PySem.W PyProof.Rows PySem.Calls
namespace Mine
theorem reset_S12 : True := by w_top off; k_with_none; trivial

theorem lines_S12_0 : True := by
  k_with "execs cons" => ((refine' aft_flat ?e ?_; (case e => first | (dsimp only; done) | (dsimp only; exact rfl) | exact rfl); intro _ _ _))
  k_with "execs nil" => (refine wpAny_execs_nil ?_)
  k_with "exec If" => (refine wpAny_If ?_)
  k_with "Post next" => (first | refine aft_end (by with_reducible assumption) ?_ | refine aft_next (by with_reducible assumption) ?_)
  k_with "Post ret" => (refine aft_ret (by with_reducible assumption) ?_)
  k_with "Post brk" => (refine aft_brk (by with_reducible assumption) ?_)
  k_with "Post cont" => (refine aft_cont (by with_reducible assumption) ?_)
  k_with "GenPost ret" => (refine genPost_ret ?_)
  k_with "call" => (((with_reducible show wpAny _ _ (call (Value.type _) _) _ _ _); refine sub_A (by with_reducible assumption) ?_))
  k_with "exec For" => (refine held ?_)
  k_with "exec While" => (refine held ?_)
  k_with "pyIter ref" => (refine held ?_)
  k_with "compareOp NotIn str ref" => (refine held ?_)
  k_with "setItem ref str" => (refine held ?_)
  k_with "setItem ref str ref" => (refine held ?_)
  trivial
noncomputable def addNew (rs bs : List (List Nat)) : List (List Nat) := bs.foldl (fun rs b => if rs.contains b then rs else rs ++ [b]) rs
noncomputable def lowerGo (d : List Nat) : Nat → List (List Nat) → Nat → List (List Nat)
  | 0, rs, _ => rs
  | f + 1, rs, p => match rs[p]? with
    | none => rs
    | some r => lowerGo d f (addNew rs (belowL r d)) (p + 1)
noncomputable def lowerOk (d : List Nat) : Nat → List (List Nat) → Nat → Bool
  | 0, rs, p => decide (rs.length ≤ p)
  | f + 1, rs, p => match rs[p]? with
    | none => true
    | some r => decide (r.length < 100) && decide (2 ≤ r.length) && decide (rs.length + (belowL r d).length < 1000) && lowerOk d f (addNew rs (belowL r d)) (p + 1)
noncomputable def lowerL (d l : List Nat) : List (List Nat) := lowerGo d 30 [l] 0

/-- the table: each key's value is a list of the ledger, of the rows below it -/
noncomputable def TabOk (d : List Nat) (kvs : List (Str × Value)) (tl : List (Addr × Obj)) : Prop :=
  ∀ p ∈ kvs, ∃ l r its n, p = (S l, .ref r) ∧ (r, listOf its n) ∈ tl ∧ StrsAre its.toList ((belowL l d).map S)

inductive LowQ (w : World) (d l : List Nat) (h₀ : Heap) (s : Shared) (tb : Addr) (tl : List (Addr × Obj)) (c : Nat) (v : Value) (s' : Shared) : Prop
  | mk (h' : Heap) (tk' : Nat) (g' : Array GenState) (new : List (Addr × Obj)) (o' : Obj) (kvs' : List (Str × Value)) (ra : Addr) (its : Array Value) (n : Nat) (e : s' = ⟨h', g', s.drawn, tk', s.os⟩) (ev : v = .ref ra) (hm : (ra, listOf its n) ∈ new) (hi : StrsAre its.toList ((lowerL d l).map S))
    (hk : ∀ b o, h₀.get? b = some o → h'.get? b = some o) (ht : h'.get? tb = some o') (ho : o'.IsDictOf (PySem.strKind PR w) kvs') (hT : TabOk d kvs' (tl ++ new)) (hn : ∀ p ∈ tl ++ new, h'.get? p.1 = some p.2) (hf : ∀ q ∈ new, h₀.get? q.1 = none ∧ q.1 ≠ tb ∧ ∀ p ∈ tl, p.1 ≠ q.1) (hc : kvs'.length ≤ c + 30) (hb : AllBare s.gens → AllBare g')
noncomputable def LowF (w : World) (d l : List Nat) (h₀ : Heap) (s : Shared) (tb : Addr) (tl : List (Addr × Obj)) (c : Nat) (f : Flow) (s' : Shared) : Prop := LowQ w d l h₀ s tb tl c (match f with | .ret v => v | _ => .none) s'

theorem addNew_take {rs bs : List (List Nat)} {i : Nat} {b : List Nat} (h : bs[i]? = some b) : addNew rs (bs.take (i + 1)) = if (addNew rs (bs.take i)).contains b then addNew rs (bs.take i) else addNew rs (bs.take i) ++ [b] := by
  unfold addNew
  rw [List.take_add_one, h, Option.toList, List.foldl_append]; rfl
theorem addNew_len (bs : List (List Nat)) : ∀ rs : List (List Nat), (addNew rs bs).length ≤ rs.length + bs.length := by
  induction bs with
  | nil => intro rs; simp [addNew]
  | cons b bs ih =>
    intro rs
    have := ih (if rs.contains b then rs else rs ++ [b])
    have e : addNew rs (b :: bs) = addNew (if rs.contains b then rs else rs ++ [b]) bs := rfl
    rw [e]
    refine Nat.le_trans this ?_
    split <;> simp <;> omega
theorem lowerGo_stop {d : List Nat} {rs : List (List Nat)} {p : Nat} (h : rs.length ≤ p) : ∀ k, lowerGo d k rs p = rs
  | 0 => rfl
  | k + 1 => by rw [lowerGo, List.getElem?_eq_none h]
theorem lowerGo_step {d : List Nat} {rs : List (List Nat)} {p k : Nat} {r : List Nat} (h : rs[p]? = some r) : lowerGo d (k + 1) rs p = lowerGo d k (addNew rs (belowL r d)) (p + 1) := by
  rw [lowerGo, h]
theorem lowerOk_step {d : List Nat} {rs : List (List Nat)} {p k : Nat} {r : List Nat} (h : rs[p]? = some r) (hk : lowerOk d k rs p = true) : ∃ j, k = j + 1 ∧ r.length < 100 ∧ 2 ≤ r.length ∧ rs.length + (belowL r d).length < 1000 ∧ lowerOk d j (addNew rs (belowL r d)) (p + 1) = true := by
  cases k with
  | zero =>
    have := of_decide_eq_true hk
    rw [List.getElem?_eq_none this] at h; cases h
  | succ j =>
    rw [lowerOk, h] at hk
    simp only [Bool.and_eq_true, decide_eq_true_eq] at hk
    exact ⟨j, rfl, hk.1.1.1, hk.1.1.2, hk.1.2, hk.2⟩
theorem strs_at {vs : List Value} {us : List Str} (h : StrsAre vs us) : ∀ {i : Nat} {u : Str}, us[i]? = some u → ∃ t, vs[i]? = some (.str u t) := by
  induction h with
  | nil => intro i u e; simp at e
  | cons x t _ ih =>
    intro i u e
    cases i with
    | zero => simp at e; subst e; exact ⟨t, by simp⟩
    | succ i => simp at e; simpa using ih e
theorem any_S (rs : List (List Nat)) (b : List Nat) : (rs.map S).any (· == S b) = rs.contains b := by
  induction rs with
  | nil => rfl
  | cons r rs ih =>
    rw [List.map_cons, List.any_cons, ih, S_beq, List.contains_cons]
    by_cases h : r = b
    · rw [beq_iff_eq.mpr h, beq_iff_eq.mpr h.symm]
    · rw [beq_eq_false_iff_ne.mpr h, beq_eq_false_iff_ne.mpr (Ne.symm h)]

theorem lt_of_all {d : Addr} {l : List (Addr × Obj)} (h : AllLt d l) : ∀ p ∈ l, p.1 < d := by
  induction l with
  | nil => intro p hp; cases hp
  | cons q r ih =>
    intro p hp
    have h1 : q.1 < d ∧ AllLt d r := h
    rcases List.mem_cons.mp hp with rfl | hp
    · exact h1.1
    · exact ih h1.2 p hp
structure LowJ (w : World) (d l : List Nat) (s : Shared) (tb ra : Addr) (tl : List (Addr × Obj)) (c k : Nat) (rs : List (List Nat)) (place : Nat) (its : Array Value) (o : Obj) (kvs : List (Str × Value)) (new : List (Addr × Obj)) (g : Array GenState) : Prop where
  its : StrsAre its.toList (rs.map S)
  go : lowerGo d k rs place = lowerL d l
  ok : lowerOk d k rs place = true
  o : o.IsDictOf (PySem.strKind PR w) kvs
  tab : TabOk d kvs (tl ++ new)
  off : ∀ p ∈ tl ++ new, p.1 ≠ tb ∧ p.1 ≠ ra
  fresh : ∀ q ∈ new, q.1 ≠ tb ∧ ∀ p ∈ tl, p.1 ≠ q.1
  cnt : kvs.length + k ≤ c + 30
  few : rs.length < 1000
  bare : AllBare s.gens → AllBare g
inductive LowM (m : Str → Option Value) (d : List Nat) (t' : Tok) (tb ra : Addr) (place : Nat) (tp : Tok) : Prop
  | mk (e1 : m (Str.ofString "place") = some (.int (place : Nat) tp)) (e2 : m (Str.ofString "rows") = some (.ref ra)) (e3 : m (Str.ofString "dress") = some (.str (S d) t')) (e4 : m (Str.ofString "table") = some (.ref tb))

theorem low_item {w : World} {A : Around} {E : Value → Shared → Prop} {s : Shared} {h₀ : Heap} {L ra : Addr} {its : Array Value} {n place : Nat} {tp : Tok} {led : List (Addr × Obj)} {v : Value} {value slice : PySem.Expr} {Q : Value → Shared → Prop}
    (N : News h₀ L s.heap ((ra, listOf its n) :: led)) (hp : place < 1000000) (hx : its[place]? = some v) (h : Q v s)
    (hs : subscripted slice false (.ref ra) (.int (place : Nat) tp) = operate [.ref ra, .int (place : Nat) tp] (getItem (.ref ra) (.int (place : Nat) tp)) := by with_unfolding_all rfl) (hg : ∀ r, letTemporaryGo value (.ref ra) r = pure () := by intro _; with_unfolding_all rfl) :
    wpAny (model PR w) A (subscriptTail value slice (.ref ra) (.int (place : Nat) tp)) Q E s :=
  item_list (items := its) ⟨_, (N _ (.head _)).1, rfl, n, rfl⟩ (by omega) (by omega) (by simpa using hx) h hs hg

theorem lines_S12_1 : True := by
  k_with "subscriptTail Name Name ref int" => (refine low_item (by assumption) (by assumption) (by assumption) ?_)
  trivial
noncomputable def lowLoop : List Stmt := match (fnBody 16).drop 2 with
  | .While _ b _ _ :: _ => b
  | _ => []
noncomputable abbrev lowEnv (L : Addr) : Env := envOf (Str.ofString "_law_lower") (fnScope 16) L 147 (.ref 146)
inductive LowP (h₀ : Heap) (L : Addr) (d : List Nat) (t' : Tok) (tb ra : Addr) (place : Nat) (tp : Tok) (o : Obj) (tl : List (Addr × Obj)) (rs : List (List Nat)) (s : Shared) (f : Flow) (s' : Shared) : Prop
  | mk (e : f = .next) (h' : Heap) (tk' : Nat) (g' : Array GenState) (m' : Str → Option Value) (its' : Array Value) (n' : Nat) (e' : s' = ⟨h', g', s.drawn, tk', s.os⟩) (F : Fr h₀ L h' m') (N : News h₀ L h' ((ra, listOf its' n') :: (tb, o) :: tl)) (M : LowM m' d t' tb ra place tp) (hi : StrsAre its'.toList (rs.map S)) (b : AllBare s.gens → AllBare g')
inductive forJ (d : List Nat) (t' : Tok) (tb ra : Addr) (place : Nat) (tp : Tok) (rs bs : List (List Nat)) (i : Nat) (m : Str → Option Value) (mine : List (Addr × Obj)) : Prop
  | mk (its : Array Value) (n : Nat) (e : mine = [(ra, listOf its n)]) (h : StrsAre its.toList ((addNew rs (bs.take i)).map S)) (M : LowM m d t' tb ra place tp)
theorem lower_for {w : World} {dp un : Nat} {gd : Option (List Code)} {base h₀ : Heap} {fr : List Env} {s : Shared} {L : Addr} {mean : ExcName → Option Value} {mg mb : Str → Option Value}
    {A : Around} (hAr : A = Around.deeper ⟨none, dp, some fr, gd, un⟩ (lowEnv L)) (hdp : dp + 8 < recursionLimit) (hun : un + 20 * 8 + 40 < cLine) (B : Below ⟨none, dp, some fr, gd, un⟩ base fr h₀) (X : (hd.heap_39 w.params).In h₀) (T : Top hd.view_39 (looseW hd.view_39 []) mean mg mb h₀)
    {d r : List Nat} {t' tp : Tok} {tb ra rb : Addr} {place : Nat} {o : Obj} {kvs : List (Str × Value)} {tl : List (Addr × Obj)} {rs : List (List Nat)} {its bts : Array Value} {n nb : Nat} {m : Str → Option Value}
    (F : Fr h₀ L s.heap m) (N : News h₀ L s.heap ((ra, listOf its n) :: (tb, o) :: tl)) (M : LowM m d t' tb ra place tp) (hits : StrsAre its.toList (rs.map S)) (hr : rs[place]? = some r)
    (ho : o.IsDictOf (PySem.strKind PR w) kvs) (hv : valueAt kvs (S r) = some (.ref rb)) (hrb : (rb, listOf bts nb) ∈ tl) (hb : StrsAre bts.toList ((belowL r d).map S)) (off : ∀ p ∈ (tb, o) :: tl, p.1 ≠ ra) (few : rs.length + (belowL r d).length < 1000) :
    wpAny (model PR w) A (exec (stAt lowLoop 1) (lowEnv L)) (LowP h₀ L d t' tb ra place tp o tl (addNew rs (belowL r d)) s) (fun _ _ => False) s := by
  obtain ⟨h, gens, dr, tk, os⟩ := s
  obtain ⟨e1, e2, e3, e4⟩ := M
  have F₁ := Fr.view (m' := fun y => if y = Str.ofString "place" then some (.int (place : Nat) tp) else if y = Str.ofString "rows" then some (.ref ra) else if y = Str.ofString "dress" then some (.str (S d) t') else if y = Str.ofString "table" then some (.ref tb) else m y) F (fun y => by rw [put_eq e4, put_eq e3, put_eq e2, put_eq e1])
  clear F
  have hlt : place < rs.length := by
    rcases Nat.lt_or_ge place rs.length with h | h
    · exact h
    · rw [List.getElem?_eq_none h] at hr; cases hr
  have hpl : place < 1000000 := by omega
  obtain ⟨tr, hx'⟩ := strs_at hits (i := place) (u := S r) (by rw [List.getElem?_map, hr]; rfl)
  have hx : its[place]? = some (.str (S r) tr) := by simpa using hx'
  refine st_hide fun Q' hQ' => ?_
  unfold stAt lowLoop fnBody
  dsimp only [stm, PySem.Challenge.pw_rs0061_01, List.drop]
  refine wpAny_For ?_
  k_steps
  refine kda_item (knd := PySem.strKind PR w) N (.tail _ (.head _)) ho (strKind_is _ _ _ _) hv ?_
  k_steps
  refine unheld (list_fix (mine := [(ra, listOf its n)]) (fixed := (tb, o) :: tl) (items := bts) (.tail _ hrb) ?_ (by rw [hAr]; rfl) (forJ d t' tb ra place tp rs (belowL r d)) rfl rfl F₁ N ⟨_, _, rfl, hits, ⟨rfl, rfl, rfl, rfl⟩⟩ ?_ ?_)
  · rw [List.map_cons, List.map_nil, List.mem_singleton]; exact off _ (.tail _ hrb)
  · rintro i v m₁ mine₁ own h gens tk hi ⟨its, n, rfl, hits, ⟨e1, e2, e3, e4⟩⟩ _ hoff hbare F₂ N₂
    obtain ⟨b, u, hb', rfl⟩ := strs_get hb (by simpa using hi)
    rw [List.getElem?_map] at hb'
    obtain ⟨b, hb'', rfl⟩ := Option.map_eq_some_iff.mp hb'
    have F₃ := Fr.view (m' := fun y => if y = Str.ofString "below" then some (.str (S b) u) else if y = Str.ofString "place" then some (.int (place : Nat) tp) else if y = Str.ofString "rows" then some (.ref ra) else if y = Str.ofString "dress" then some (.str (S d) t') else if y = Str.ofString "table" then some (.ref tb) else m₁ y) F₂ (fun y => by rw [put_eq e4, put_eq e3, put_eq e2, put_eq e1])
    clear F₁ N F₂
    have hlen : its.size < 2000 := by
      rw [← Array.length_toList, strs_length hits, List.length_map]
      have h1 := addNew_len ((belowL r d).take i) rs
      have h2 : ((belowL r d).take i).length ≤ (belowL r d).length := by rw [List.length_take]; omega
      omega
    have hoff' : OwnOff ((tb, o) :: tl ++ own) [ra] := fun p hp b hb => by
      rw [List.mem_singleton] at hb; subst hb
      rcases List.mem_append.mp hp with hp | hp
      · exact off _ hp
      · exact hoff p hp _ (.head _)
    generalize (tb, o) :: tl ++ own = rest at N₂ hoff' ⊢
    replace N₂ : News h₀ L h ((ra, listOf its n) :: rest) := N₂
    have hli : h.IsList ra its.toList.toArray := ⟨_, (N₂ _ (.head _)).1, rfl, n, rfl⟩
    clear hoff hrb
    k_steps
    cases hc : (addNew rs ((belowL r d).take i)).contains b with
    | true =>
      refine unheld (notin_list_strs hli hits ?_)
      rw [any_S, hc]
      k_steps
      exact turn_next [_] F₃ N₂ rfl ⟨_, _, rfl, by rw [addNew_take hb'', if_pos hc]; exact hits, ⟨rfl, rfl, rfl, rfl⟩⟩ hbare
    | false =>
      refine unheld (notin_list_strs hli hits ?_)
      rw [any_S, hc]
      k_steps
      rename Fr _ _ _ _ => F₄
      rename News _ _ _ _ => N₄
      exact turn_next [_] F₄ N₄ rfl ⟨_, _, rfl, by rw [addNew_take hb'', if_neg (by rw [hc]; exact Bool.false_ne_true)]; exact strs_push' hits rfl, ⟨rfl, rfl, rfl, rfl⟩⟩ hbare
  · rintro m₁ mine₁ h gens tk ⟨its, n, rfl, hits, e⟩ _ hbare F₂ N₂
    have hsz : bts.size = (belowL r d).length := by rw [← Array.length_toList, strs_length hb, List.length_map]
    rw [hsz, List.take_length] at hits
    exact hQ' _ _ ⟨rfl, _, _, _, _, _, _, rfl, F₂, N₂, e, hits, hbare⟩
end Mine

end

section
open PySem PySem.W PyProof.Rows PySem.Calls
namespace Mine
theorem reset_S13 : True := by w_top off; k_with_none; trivial
theorem lines_S13_0 : True := by
  k_with "execs cons" => ((refine' aft_flat ?e ?_; (case e => first | (dsimp only; done) | (dsimp only; exact rfl) | exact rfl); intro _ _ _))
  k_with "execs nil" => (refine wpAny_execs_nil ?_)
  k_with "exec If" => (refine wpAny_If ?_)
  k_with "Post next" => (first | refine aft_end (by with_reducible assumption) ?_ | refine aft_next (by with_reducible assumption) ?_)
  k_with "Post ret" => (refine aft_ret (by with_reducible assumption) ?_)
  k_with "Post brk" => (refine aft_brk (by with_reducible assumption) ?_)
  k_with "Post cont" => (refine aft_cont (by with_reducible assumption) ?_)
  k_with "GenPost ret" => (refine genPost_ret ?_)
  k_with "call" => (((with_reducible show wpAny _ _ (call (Value.type _) _) _ _ _); refine sub_A (by with_reducible assumption) ?_))
  k_with "exec While" => (refine held ?_)
  k_with "execs cons" => (with_reducible refine held_for ?_)
  k_with "compareOp NotIn str ref" => (refine held ?_)
  k_with "setItem ref str" => (refine held ?_)
  k_with "setItem ref str ref" => (refine held ?_)
  k_with "subscriptTail Name Name ref int" => (refine low_item (by assumption) (by assumption) (by assumption) ?_)
  trivial
inductive LowR (h₀ : Heap) (L : Addr) (d : List Nat) (t' : Tok) (tb ra : Addr) (place : Nat) (o : Obj) (tl : List (Addr × Obj)) (rs : List (List Nat)) (s : Shared) (f : Flow) (s' : Shared) : Prop
  | mk (e : f = .next) (h' : Heap) (tk' : Nat) (g' : Array GenState) (m' : Str → Option Value) (its' : Array Value) (n' : Nat) (tp : Tok) (e' : s' = ⟨h', g', s.drawn, tk', s.os⟩) (F : Fr h₀ L h' m') (N : News h₀ L h' ((ra, listOf its' n') :: (tb, o) :: tl)) (M : LowM m' d t' tb ra place tp) (hi : StrsAre its'.toList (rs.map S)) (b : AllBare s.gens → AllBare g')
/-- what holds ahead of each turn of the while -/
inductive LowW (w : World) (d l : List Nat) (h₀ : Heap) (L : Addr) (t' : Tok) (s : Shared) (tb ra : Addr) (tl : List (Addr × Obj)) (c k : Nat) (s' : Shared) : Prop
  | mk (rs : List (List Nat)) (place : Nat) (tp : Tok) (its : Array Value) (n : Nat) (h : Heap) (g : Array GenState) (tk' : Nat) (m : Str → Option Value) (o' : Obj) (kvs' : List (Str × Value)) (new : List (Addr × Obj)) (e : s' = ⟨h, g, s.drawn, tk', s.os⟩) (F : Fr h₀ L h m) (N : News h₀ L h ((ra, listOf its n) :: (tb, o') :: (tl ++ new))) (M : LowM m d t' tb ra place tp) (J : LowJ w d l s tb ra tl c k rs place its o' kvs' new g)
theorem lower_rest {w : World} {dp un : Nat} {gd : Option (List Code)} {base h₀ : Heap} {fr : List Env} {s : Shared} {L : Addr} {mean : ExcName → Option Value} {mg mb : Str → Option Value}
    {A : Around} (hAr : A = Around.deeper ⟨none, dp, some fr, gd, un⟩ (lowEnv L)) (hdp : dp + 8 < recursionLimit) (hun : un + 20 * 8 + 40 < cLine) (B : Below ⟨none, dp, some fr, gd, un⟩ base fr h₀) (X : (hd.heap_39 w.params).In h₀) (T : Top hd.view_39 (looseW hd.view_39 []) mean mg mb h₀)
    {d r : List Nat} {t' tp : Tok} {tb ra rb : Addr} {place : Nat} {o : Obj} {kvs : List (Str × Value)} {tl : List (Addr × Obj)} {rs : List (List Nat)} {its bts : Array Value} {n nb : Nat} {m : Str → Option Value}
    (F : Fr h₀ L s.heap m) (N : News h₀ L s.heap ((ra, listOf its n) :: (tb, o) :: tl)) (M : LowM m d t' tb ra place tp) (hits : StrsAre its.toList (rs.map S)) (hr : rs[place]? = some r)
    (ho : o.IsDictOf (PySem.strKind PR w) kvs) (hv : valueAt kvs (S r) = some (.ref rb)) (hrb : (rb, listOf bts nb) ∈ tl) (hb : StrsAre bts.toList ((belowL r d).map S)) (off : ∀ p ∈ (tb, o) :: tl, p.1 ≠ ra) (few : rs.length + (belowL r d).length < 1000) :
    wpAny (model PR w) A (execs (lowLoop.drop 1) (lowEnv L)) (LowR h₀ L d t' tb ra (place + 1) o tl (addNew rs (belowL r d)) s) (fun _ _ => False) s := by
  have hpl : place < rs.length := by
    rcases Nat.lt_or_ge place rs.length with h | h
    · exact h
    · rw [List.getElem?_eq_none h] at hr; cases hr
  have e : lowLoop.drop 1 = stAt lowLoop 1 :: lowLoop.drop 2 := rfl
  rw [e]
  refine wpAny_execs_cons (wpAny_mono (lower_for hAr hdp hun B X T F N M hits hr ho hv hrb hb off few) (fun f s' hf => ?_) fun _ _ x => x)
  obtain ⟨rfl, h', tk', g', m', its', n', rfl, F', N', ⟨e1, e2, e3, e4⟩, q, hb'⟩ := hf
  have F₁ := Fr.view (m' := fun y => if y = Str.ofString "place" then some (.int (place : Nat) tp) else if y = Str.ofString "rows" then some (.ref ra) else if y = Str.ofString "dress" then some (.str (S d) t') else if y = Str.ofString "table" then some (.ref tb) else m' y) F' (fun y => by rw [put_eq e4, put_eq e3, put_eq e2, put_eq e1])
  clear F F' N
  unfold lowLoop fnBody
  dsimp only [stm, PySem.Challenge.pw_rs0061_01, List.drop]
  k_steps
  rename Fr _ _ _ _ => F₂
  rename News _ _ _ _ => N₂
  exact ⟨rfl, _, _, _, _, _, _, _, rfl, F₂, N₂, ⟨rfl, rfl, rfl, rfl⟩, q, hb'⟩

theorem stored_none {kvs : List (Str × Value)} {k : Str} {v : Value} (h : (valueAt kvs k).isSome = false) : stored kvs k v = kvs ++ [(k, v)] ∧ valueAt (stored kvs k v) k = some v := by
  have h' := h
  rw [valueAt_isSome_eq_any] at h'
  have e : stored kvs k v = kvs ++ [(k, v)] := by unfold stored; rw [if_neg (by rw [h']; exact Bool.false_ne_true)]
  refine ⟨e, ?_⟩
  rw [e]
  unfold valueAt at h ⊢
  rw [List.find?_append]
  cases q : kvs.find? (fun kv => kv.1 = k) with
  | some x => rw [q] at h; cases h
  | none => simp
theorem TabOk.mono {d : List Nat} {kvs : List (Str × Value)} {a b : List (Addr × Obj)} (h : TabOk d kvs a) (hs : ∀ p ∈ a, p ∈ b) : TabOk d kvs b := fun p hp =>
  let ⟨l, r, its, n, e, hm, q⟩ := h p hp
  ⟨l, r, its, n, e, hs _ hm, q⟩
theorem TabOk.at {d r : List Nat} {kvs : List (Str × Value)} {tl : List (Addr × Obj)} (h : TabOk d kvs tl) (hs : (valueAt kvs (S r)).isSome = true) : ∃ rb bts nb, valueAt kvs (S r) = some (.ref rb) ∧ (rb, listOf bts nb) ∈ tl ∧ StrsAre bts.toList ((belowL r d).map S) := by
  unfold valueAt at hs ⊢
  cases q : kvs.find? (fun kv => kv.1 = S r) with
  | none => rw [q] at hs; cases hs
  | some x =>
    obtain ⟨l, rb, its, n, rfl, hm, hi⟩ := h x (List.mem_of_find?_eq_some q)
    have e : S l = S r := by simpa using List.find?_some q
    rw [S_inj e] at hi
    exact ⟨rb, its, n, rfl, hm, hi⟩
theorem lower_walk (w : World) (d l : List Nat) (t t' : Tok) (hd' : d.length < 100) (hok : lowerOk d 30 [l] 0 = true) {A : Around} {base h₀ : Heap} {fr : List Env} {s : Shared} {tb : Addr} {o : Obj} {kvs : List (Str × Value)} {tl : List (Addr × Obj)} {c : Nat} {E : Value → Shared → Prop}
    (hs : h₀.objs.size ≤ s.heap.objs.size) (hk : ∀ b o, h₀.get? b = some o → s.heap.get? b = some o) (G : GBase w h₀) (B : Below A base fr h₀) (Rm : Room A 8)
    (hN : ∀ p ∈ (tb, o) :: tl, s.heap.get? p.1 = some p.2 ∧ h₀.get? p.1 = none) (htl : ∀ p ∈ tl, p.1 ≠ tb) (lo : (tb == sysModules) = false) (ho : o.IsDictOf (PySem.strKind PR w) kvs) (hT : TabOk d kvs tl) (hc : kvs.length ≤ c) (hc2 : c < 1000) :
    wpAny (model PR w) A (call (.ref 147) [.str (S l) t, .str (S d) t', .ref tb]) (LowQ w d l h₀ s tb tl c) E s := by
  obtain ⟨mean, mg, mb, T⟩ := G.T
  have X := G.X
  obtain ⟨hh, dp, fs, gd, un⟩ := A
  obtain ⟨h1, h2, h3⟩ := Rm
  have e1 : hh = none := h1
  have e2 : fs = some fr := B.stack
  subst e1 e2
  have hdp : dp + 8 < recursionLimit := h2
  have hun : un + 20 * 8 + 40 < cLine := h3
  have go : ∀ {name : Str} {params : Arguments} {body : List Stmt} {scope : Scope} {pm cd doc oc : Value} {od : Option Addr} {osl : Array (Option Value)} {binds : List (Str × Value)} {vs : List Value},
      (hd.heap_39 w.params).lookup 147 = some ⟨oc, od, .func (docDef name params body scope pm cd doc), osl⟩ → codeIn (hd.heap_39 w.params) cd name = true →
      bindArgs (docDef name params body scope pm cd doc) ⟨vs, []⟩ = pure binds → (∀ x ∈ binds, scope.names.lookup x.1 = some .local) → scope.isCoroutine = false → scope.isGenerator = false → scope.kind = .function → (∀ x ∈ scope.names, x.2 ≠ .cell) →
      (∀ h₁ tk A L, A = Around.deeper ⟨none, dp, some fr, gd, un⟩ (envOf name scope L 147 cd) → Fr h₀ L h₁ (fun x => binds.reverse.lookup x) → News h₀ L h₁ ((tb, o) :: tl) →
        wpAny (model PR w) A (execs body (envOf name scope L 147 cd)) (LowF w d l h₀ s tb tl c) (fun _ _ => False) ⟨h₁, s.gens, s.drawn, tk, s.os⟩) →
      wpAny (model PR w) ⟨none, dp, some fr, gd, un⟩ (call (.ref 147) vs) (LowQ w d l h₀ s tb tl c) E s := by
    intro name params body scope pm cd doc oc od osl binds vs q1 q2 q3 q4 hco hgen hkd hcell q5
    refine wpAny_call (call_plain_ret (Nat.lt_of_le_of_lt (Nat.le_add_right _ _) hdp) ((X.keeps hk) _ _ q1) rfl (T.keeps hk).nolimit (codeRec_of (X.keeps hk) q2) q3 q4 (fun h₁ F => ?_) hco hgen hkd hcell)
    refine wpAny_mono (q5 h₁ _ _ _ rfl ⟨F.ns, fun b o e => F.keep b o (hk b o e), hs⟩ fun p hp => ⟨F.keep _ _ (hN p hp).1, Nat.ne_of_lt (Heap.lt_size (hN p hp).1), (hN p hp).2⟩) (fun fl s' hf => ?_) fun _ _ x => x
    exact hf
  refine go (binds := [(Str.ofString "row", .str (S l) t), (Str.ofString "dress", .str (S d) t'), (Str.ofString "table", .ref tb)]) (by k_is) (by k_is) (by rfl) (locs (by rfl)) rfl rfl rfl (by decide) ?_
  intro h₁ tk A L hAr F N
  clear hN
  k_steps
  rename_i ra _ l1 _ _ _ _ _ F₂ N₂ _ _ _
  refine unheld (while_inv (LowW w d l h₀ L t' s tb ra tl c) 30
    ⟨[l], 0, _, _, _, _, _, _, _, o, kvs, [], rfl, F₂, by rw [List.append_nil]; exact N₂, ⟨rfl, rfl, rfl, rfl⟩, ⟨.cons _ _ .nil, rfl, hok, ho, by rw [List.append_nil]; exact hT, ?_, (fun q hq => nomatch hq), by omega, by show 1 < 1000; decide, id⟩⟩ ?_)
  · rw [List.append_nil]; exact fun p hp => ⟨htl p hp, Nat.ne_of_lt (lt_of_all l1.2 p hp)⟩
  clear F₂ N₂
  rintro k s' ⟨rs, place, tp, its, n, h, g, tk', m, o', kvs', new, rfl, F₂, N₂, ⟨e1, e2, e3, e4⟩, J⟩
  have F₃ := Fr.view (m' := fun y => if y = Str.ofString "place" then some (.int (place : Nat) tp) else if y = Str.ofString "rows" then some (.ref ra) else if y = Str.ofString "dress" then some (.str (S d) t') else if y = Str.ofString "table" then some (.ref tb) else m y) F₂ (fun y => by rw [put_eq e4, put_eq e3, put_eq e2, put_eq e1])
  clear F₂
  have hlen : its.size = rs.length := by rw [← Array.length_toList, strs_length J.its, List.length_map]
  have hsz' : its.size < 2000 := by have := J.few; omega
  k_steps
  · rename ((place : Nat) : Int) < _ => hlt
    obtain ⟨r, hr⟩ : ∃ r, rs[place]? = some r := ⟨_, List.getElem?_eq_getElem (by omega)⟩
    obtain ⟨j, rfl, w1, w2, w3, w4⟩ := lowerOk_step hr J.ok
    obtain ⟨tr, hv⟩ := strs_at J.its (i := place) (u := S r) (by rw [List.getElem?_map, hr]; rfl)
    have hx : its[place]? = some (.str (S r) tr) := by simpa using hv
    have hpl : place < 1000000 := by have := J.few; omega
    have off' : ∀ p ∈ (tb, o') :: (tl ++ new), p.1 ≠ ra := fun p hp => (List.mem_cons.mp hp).elim (fun e => by rw [e]; exact Nat.ne_of_lt l1.1) fun hp => (J.off p hp).2
    k_steps
    cases hin : (valueAt kvs' (S r)).isSome with
    | true =>
      obtain ⟨rb, bts, nb, hv', hrb, hbb⟩ := J.tab.at hin
      refine unheld (kdg_notin (knd := PySem.strKind PR w) N₂ (.tail _ (.head _)) J.o lo (strKind_is _ _ _ _) true hin ?_)
      k_steps
      refine unheld (wpAny_mono (lower_rest hAr hdp hun B X T F₃ N₂ ⟨rfl, rfl, rfl, rfl⟩ J.its hr J.o hv' hrb hbb off' w3) (fun f s' hf => ?_) fun _ _ x => x)
      obtain ⟨rfl, h', tk', g', m', its', n', tp', rfl, F', N', M', q, hb'⟩ := hf
      exact ⟨j, Nat.lt_succ_self _, addNew rs (belowL r d), place + 1, tp', its', n', h', g', tk', m', o', kvs', new, rfl, F', N', M', ⟨q, by rw [← lowerGo_step hr]; exact J.go, w4, J.o, J.tab, J.off, J.fresh, by have := J.cnt; omega, by have := addNew_len (belowL r d) rs; omega, fun hb => hb' (J.bare hb)⟩⟩
    | false =>
      refine unheld (kdg_notin (knd := PySem.strKind PR w) N₂ (.tail _ (.head _)) J.o lo (strKind_is _ _ _ _) false hin ?_)
      k_steps
      refine use_ct hAr (below_ct w r d tr t' w1 w2 hd') B F₃ X N₂ T rfl rfl (by show dp + (7 + 1) < _; omega) (by show un + 20 * 7 + 43 < _; omega) ?_
      rintro v nw h₅ tk₅ g₅ ⟨rb, bts, nb, hbb⟩ F₅ N₅ off₅ hb₅
      clear F₃ N₂
      simp only [List.cons_append, List.append_assoc] at N₅
      try dsimp only
      k_steps
      have hrb0 : ∀ p ∈ (ra, listOf its n) :: (tb, o') :: (tl ++ new), rb ≠ p.1 := fun p hp => off₅ _ (.head _) p.1 (List.mem_map.mpr ⟨p, hp, rfl⟩)
      have offt : ∀ p ∈ tl ++ (new ++ [(rb, listOf bts nb)]), p.1 ≠ tb ∧ p.1 ≠ ra := fun p hp => by
        rw [← List.append_assoc] at hp
        rcases List.mem_append.mp hp with hp | hp
        · exact J.off p hp
        · rw [List.mem_singleton.mp hp]; exact ⟨hrb0 _ (.tail _ (.head _)), hrb0 _ (.head _)⟩
      refine unheld (kda_set (knd := PySem.strKind PR w) F₅ N₅ (.tail (Nat.ne_of_gt l1.1) (.head fun p hp => (offt p hp).1)) J.o (strKind_is _ _ _ _) (by have := J.cnt; rw [sizeLine_eq]; omega) ?_)
      intro h₆ o₆ F₆ N₆ ho₆
      clear F₅ N₅ off₅
      obtain ⟨est, hv'⟩ := stored_none (v := .ref rb) hin
      have tab₆ : TabOk d (stored kvs' (S r) (.ref rb)) (tl ++ (new ++ [(rb, listOf bts nb)])) := fun p hp => by
        rw [est] at hp
        rcases List.mem_append.mp hp with hp | hp
        · exact (J.tab.mono fun p hp => by rw [← List.append_assoc]; exact List.mem_append.mpr (.inl hp)) p hp
        · rw [List.mem_singleton.mp hp]; exact ⟨r, rb, bts, nb, rfl, List.mem_append.mpr (.inr (List.mem_append.mpr (.inr (.head _)))), hbb⟩
      k_steps
      refine unheld (wpAny_mono (lower_rest hAr hdp hun B X T F₆ N₆ ⟨rfl, rfl, rfl, rfl⟩ J.its hr ho₆ hv' (List.mem_append.mpr (.inr (List.mem_append.mpr (.inr (.head _))))) hbb (fun p hp => (List.mem_cons.mp hp).elim (fun e => by rw [e]; exact Nat.ne_of_lt l1.1) fun hp => (offt p hp).2) w3) (fun f s' hf => ?_) fun _ _ x => x)
      obtain ⟨rfl, h', tk', g', m', its', n', tp', rfl, F', N', M', q, hb'⟩ := hf
      exact ⟨j, Nat.lt_succ_self _, addNew rs (belowL r d), place + 1, tp', its', n', h', g', tk', m', o₆, stored kvs' (S r) (.ref rb), new ++ [(rb, listOf bts nb)], rfl, F', N', M', ⟨q, by rw [← lowerGo_step hr]; exact J.go, w4, ho₆, tab₆, offt,
        fun q hq => (List.mem_append.mp hq).elim (J.fresh q) fun hq => by rw [List.mem_singleton.mp hq]; exact ⟨hrb0 _ (.tail _ (.head _)), fun p hp => (hrb0 p (.tail _ (.tail _ (List.mem_append.mpr (.inl hp))))).symm⟩,
        by have := J.cnt; rw [est, List.length_append]; simp only [List.length_cons, List.length_nil]; omega, by have := addNew_len (belowL r d) rs; omega, fun hb => hb' (hb₅ (J.bare hb))⟩⟩
  · rename ¬ ((place : Nat) : Int) < _ => hge
    have hgo := J.go
    rw [lowerGo_stop (by omega)] at hgo
    have N₃ := N₂
    exact ⟨h, _, g, (ra, listOf its n) :: new, o', kvs', ra, its, n, rfl, rfl, .head _, by rw [← hgo]; exact J.its, F₃.keep, (N₂ _ (.tail _ (.head _))).1, J.o,
      J.tab.mono fun p hp => (List.mem_append.mp hp).elim (fun h => List.mem_append.mpr (.inl h)) fun h => List.mem_append.mpr (.inr (.tail _ h)),
      fun p hp => (List.mem_append.mp hp).elim (fun h => (N₂ p (.tail _ (.tail _ (List.mem_append.mpr (.inl h))))).1) fun h => (List.mem_cons.mp h).elim (fun e => by rw [e]; exact (N₂ _ (.head _)).1) fun h => (N₂ p (.tail _ (.tail _ (List.mem_append.mpr (.inr h))))).1,
      fun q hq => (List.mem_cons.mp hq).elim (fun e => by rw [e]; exact ⟨(N₂ _ (.head _)).2.2, Nat.ne_of_gt l1.1, fun p hp => (J.off p (List.mem_append.mpr (.inl hp))).2⟩) fun h => ⟨(N₂ q (.tail _ (.tail _ (List.mem_append.mpr (.inr h))))).2.2, J.fresh q h⟩,
      by have := J.cnt; omega, J.bare⟩
end Mine

end

section
open PySem PySem.W PyProof.Rows PySem.Calls
namespace Mine
noncomputable def pickI (ns : List Int) (lo hi st : Option Int) : List Int :=
  (sliceRange (sliceBounds lo hi st ns.length).1 (sliceBounds lo hi st ns.length).2.1 (sliceBounds lo hi st ns.length).2.2).filterMap (ns[·]?)
theorem ints_filter {vs : List Value} {ns : List Int} (h : IntsAre vs ns) : ∀ l : List Nat, IntsAre (l.filterMap (vs.toArray[·]?)) (l.filterMap (ns[·]?))
  | [] => .nil
  | i :: r => by
    have ih := ints_filter h r
    cases q : vs[i]? with
    | none =>
      have q' : ns[i]? = none := by
        rw [List.getElem?_eq_none_iff] at q ⊢; rw [← h.length]; exact q
      rw [List.filterMap_cons_none (by simpa using q), List.filterMap_cons_none q']; exact ih
    | some v =>
      obtain ⟨n, t, hn, rfl⟩ := ints_get h q
      rw [List.filterMap_cons_some (b := .int n t) (by simpa using q), List.filterMap_cons_some hn]; exact .cons n t ih
theorem ints_pick {vs : List Value} {ns : List Int} (h : IntsAre vs ns) (lo hi st : Option Int) : IntsAre (slicePick vs.toArray lo hi st).toList (pickI ns lo hi st) := by
  have e : vs.toArray.size = ns.length := by simp [h.length]
  unfold slicePick pickI
  rw [e]
  exact ints_filter h _
theorem sum_pick {w : World} {A : Around} {E : Value → Shared → Prop} {s : Shared} {h₀ : Heap} {L l : Addr} {m : Str → Option Value} {led : List (Addr × Obj)} {vs : List Value} {ns : List Int} {lo hi st : Option Int} {n : Nat} {Q : Value → Shared → Prop}
    (hi' : IntsAre vs ns) (F : Fr h₀ L s.heap m) (N : News h₀ L s.heap led) (hh : A.handled = none) (hm : (l, listOf (slicePick vs.toArray lo hi st) n) ∈ led)
    (h : ∀ h' tk' t', Fr h₀ L h' m → News h₀ L h' led → Q (.int (pickI ns lo hi st).sum t') { s with heap := h', toks := tk' }) :
    wpAny (model PR w) A (call (.builtin "sum") [.ref l]) Q E s :=
  sumK hh F N (vs := (slicePick vs.toArray lo hi st).toList) ⟨_, (N _ hm).1, rfl, n, rfl⟩ (ints_pick hi' lo hi st) h
end Mine

end

section
open PySem PySem.W PyProof.Rows PySem.Calls
namespace Mine
noncomputable def gone : Obj := { cls := .none, data := .freed }
noncomputable def holes (h : Heap) (as : List Addr) : Heap := as.foldl (fun h a => h.update a fun _ => gone) h
theorem hole_self (h : Heap) (a : Addr) : (h.update a fun _ => gone).get? a = none := by
  cases q : (h.update a fun _ => gone).get? a with
  | none => rfl
  | some o =>
    have h1 := (Heap.get?_eq_some _ _ _).mp q
    have h2 := h1.1
    rw [Heap.objs_update_self] at h2
    cases r : h.objs[a]? with
    | none => rw [r] at h2; cases h2
    | some o' =>
      rw [r] at h2
      have e : gone = o := Option.some.inj h2
      have h3 := h1.2
      rw [← e] at h3
      exact absurd h3 (by decide)
theorem holes_size (as : List Addr) : ∀ h : Heap, (holes h as).objs.size = h.objs.size := by
  induction as with
  | nil => intro h; rfl
  | cons a r ih => intro h; exact (ih _).trans (update_size h a _)
theorem holes_off {b : Addr} (as : List Addr) : ∀ h : Heap, b ∉ as → (holes h as).get? b = h.get? b := by
  induction as with
  | nil => intro h _; rfl
  | cons a r ih =>
    intro h hb
    rw [List.mem_cons, not_or] at hb
    exact (ih _ hb.2).trans ((Heap.SameBut.update ..).2 b hb.1)
theorem holes_none {b : Addr} (as : List Addr) : ∀ h : Heap, h.get? b = none → (holes h as).get? b = none := by
  induction as with
  | nil => intro h hb; exact hb
  | cons a r ih =>
    intro h hb
    refine ih _ ?_
    by_cases e : b = a
    · subst e; exact hole_self h b
    · rw [(Heap.SameBut.update ..).2 b e]; exact hb
theorem holes_on {b : Addr} (as : List Addr) : ∀ h : Heap, b ∈ as → (holes h as).get? b = none := by
  induction as with
  | nil => intro h hb; cases hb
  | cons a r ih =>
    intro h hb
    by_cases e : b ∈ r
    · exact ih _ e
    · have e' : b = a := (List.mem_cons.mp hb).resolve_right e
      subst e'
      exact holes_none r _ (hole_self h b)
end Mine

end

section
open PySem PySem.W PyProof.Rows PySem.Calls
namespace Mine
theorem push_env {A : Around} {base h₀ h : Heap} {outer : List Env} {L : Addr} {m : Str → Option Value} {env : Env} (K : Below A base outer h₀) (F : Fr h₀ L h m) (hk : env.scope.kind ≠ .module) (hf : env.frame = some L) :
    Below (A.deeper env) base (env :: outer) h := by
  have hnew : base.get? L = none := by
    cases hq : base.get? L with
    | none => rfl
    | some o => exact absurd (Nat.lt_of_lt_of_le (Heap.lt_size (K.stays L o hq)) F.above) (Nat.lt_irrefl _)
  refine ⟨Around.frames_deeper K.stack, fun b o e => F.keep b o (K.stays b o e), ?_⟩
  exact .cons hk hf F.ns hnew (K.frames.of_keeps fun b o e _ => ⟨o, F.keep b o e, rfl⟩)
section
variable {w : World} {A : Around} {base h₀ : Heap} {fr : List Env} {s : Shared} {L : Addr} {env : Env} {m : Str → Option Value} {led : List (Addr × Obj)} {Q E : Value → Shared → Prop}
theorem use_ctE {d : Nat} {f : Addr} {vs : List Value} {R : Value → List (Addr × Obj) → Prop}
    (C : Ct d w f vs R) (B : Below A base fr h₀) (G : GBase w h₀) (F : Fr h₀ L s.heap m) (N : News h₀ L s.heap led) (hk : env.scope.kind ≠ .module) (hf : env.frame = some L)
    (hh : A.handled = none) (hdp : A.depth + (d + 1) < recursionLimit) (hun : A.units + 20 * d + 43 < cLine)
    (ret : ∀ (v : Value) (new : List (Addr × Obj)) (h' : Heap) (tk' : Nat) (g' : Array GenState), R v new → Fr h₀ L h' m → News h₀ L h' (led ++ new) → OwnOff new (led.map (·.1)) → (AllBare s.gens → AllBare g') → Q v ⟨h', g', s.drawn, tk', s.os⟩) :
    wpAny (model PR w) (A.deeper env) (call (.ref f) vs) Q E s := by
  refine C (A.deeper env) base (env :: fr) s Q E (G.keeps F.keep) (push_env B F hk hf) ⟨hh, ?_, ?_⟩ fun v new h' tk' g' hR hext hown hnew hb => ?_
  · show A.depth + 1 + d < recursionLimit; omega
  · show A.units + 3 + 20 * d + 40 < cLine; omega
  · exact ret v new h' tk' g' hR (after_F F hext) (news_app (after_N N hext) (after_new F hown hnew)) (new_off N hnew) hb
theorem use_ctPE {d : Nat} {f : Addr} {vs : List Value} {P : Heap → Prop} {R : Value → List (Addr × Obj) → Prop}
    (C : CtP d w f vs P R) (hP : P s.heap) (B : Below A base fr h₀) (G : GBase w h₀) (F : Fr h₀ L s.heap m) (N : News h₀ L s.heap led) (hk : env.scope.kind ≠ .module) (hf : env.frame = some L)
    (hh : A.handled = none) (hdp : A.depth + (d + 1) < recursionLimit) (hun : A.units + 20 * d + 43 < cLine)
    (ret : ∀ (v : Value) (new : List (Addr × Obj)) (h' : Heap) (tk' : Nat) (g' : Array GenState), R v new → Fr h₀ L h' m → News h₀ L h' (led ++ new) → OwnOff new (led.map (·.1)) → (AllBare s.gens → AllBare g') → Q v ⟨h', g', s.drawn, tk', s.os⟩) :
    wpAny (model PR w) (A.deeper env) (call (.ref f) vs) Q E s := by
  refine C (A.deeper env) base (env :: fr) s Q E hP (G.keeps F.keep) (push_env B F hk hf) ⟨hh, ?_, ?_⟩ fun v new h' tk' g' hR hext hown hnew hb => ?_
  · show A.depth + 1 + d < recursionLimit; omega
  · show A.units + 3 + 20 * d + 40 < cLine; omega
  · exact ret v new h' tk' g' hR (after_F F hext) (news_app (after_N N hext) (after_new F hown hnew)) (new_off N hnew) hb

theorem use_low {d l : List Nat} {t t' : Tok} {tb : Addr} {o : Obj} {kvs : List (Str × Value)} {tl rest : List (Addr × Obj)} {c : Nat} (hd' : d.length < 100) (hok : lowerOk d 30 [l] 0 = true)
    (B : Below A base fr h₀) (G : GBase w h₀) (F : Fr h₀ L s.heap m) (N : News h₀ L s.heap ((tb, o) :: (tl ++ rest))) (hk : env.scope.kind ≠ .module) (hf : env.frame = some L)
    (htl : ∀ p ∈ tl, p.1 ≠ tb) (hrs : ∀ p ∈ rest, p.1 ≠ tb) (lo : (tb == sysModules) = false) (ho : o.IsDictOf (PySem.strKind PR w) kvs) (hT : TabOk d kvs tl) (hc : kvs.length ≤ c) (hc2 : c < 1000)
    (hh : A.handled = none) (hdp : A.depth + 9 < recursionLimit) (hun : A.units + 20 * 8 + 43 < cLine)
    (ret : ∀ h' tk' g' new o' kvs' ra its n, (ra, listOf its n) ∈ new → StrsAre its.toList ((lowerL d l).map S) → Fr h₀ L h' m → News h₀ L h' ((tb, o') :: (tl ++ new ++ rest)) → o'.IsDictOf (PySem.strKind PR w) kvs' → TabOk d kvs' (tl ++ new) →
      OwnOff new (((tb, o) :: (tl ++ rest)).map (·.1)) → kvs'.length ≤ c + 30 → (AllBare s.gens → AllBare g') → Q (.ref ra) ⟨h', g', s.drawn, tk', s.os⟩) :
    wpAny (model PR w) (A.deeper env) (call (.ref 147) [.str (S l) t, .str (S d) t', .ref tb]) Q E s := by
  let as : List Addr := tb :: tl.map (·.1)
  have hlL : ∀ {b : Addr}, b ∈ as → ∃ q ∈ (tb, o) :: tl, q.1 = b := fun {b} hb => by
    rcases List.mem_cons.mp hb with rfl | hb
    · exact ⟨_, .head _, rfl⟩
    · obtain ⟨p, hp, e⟩ := List.mem_map.mp hb; exact ⟨p, .tail _ hp, e⟩
  have N' : ∀ q ∈ (tb, o) :: tl, s.heap.get? q.1 = some q.2 ∧ q.1 ≠ L ∧ h₀.get? q.1 = none := fun q hq => N q (by
    rcases List.mem_cons.mp hq with rfl | hq
    · exact .head _
    · exact .tail _ (List.mem_append.mpr (.inl hq)))
  have off0 : ∀ {b : Addr} {x : Obj}, h₀.get? b = some x → b ∉ as := fun {b x} hx hb => by
    obtain ⟨q, hq, rfl⟩ := hlL hb
    rw [(N' q hq).2.2] at hx; cases hx
  have offL : L ∉ as := fun hb => by
    obtain ⟨q, hq, e⟩ := hlL hb
    exact (N' q hq).2.1 e
  have F' : Fr h₀ L (holes s.heap as) m := ⟨F.ns.at' fun x hx => (holes_off as s.heap offL).trans hx, fun b x hx => (holes_off as s.heap (off0 hx)).trans (F.keep b x hx), F.above⟩
  have B' := push_env B F' hk hf
  refine wpAny_mono (lower_walk w d l t t' hd' hok (tb := tb) (o := o) (kvs := kvs) (tl := tl) (c := c) (E := E) (h₀ := holes s.heap as) (Nat.le_of_eq (holes_size as s.heap)) (fun b x hx => ?_) (G.keeps F'.keep) B' ⟨hh, ?_, ?_⟩ (fun p hp => ⟨(N' p hp).1, holes_on as s.heap ?_⟩) htl lo ho hT hc hc2) (fun v s' hq => ?_) fun _ _ x => x
  · by_cases hb : b ∈ as
    · rw [holes_on as s.heap hb] at hx; cases hx
    · exact (holes_off as s.heap hb).symm.trans hx
  · show A.depth + 1 + 8 < recursionLimit; omega
  · show A.units + 3 + 20 * 8 + 40 < cLine; omega
  · rcases List.mem_cons.mp hp with rfl | hp
    · exact .head _
    · exact .tail _ (List.mem_map.mpr ⟨p, hp, rfl⟩)
  · obtain ⟨h', tk', g', new, o', kvs', ra, its, n, rfl, rfl, hm, hits, hkp, hto, ho', hT', hown, hfr, hcnt, hb⟩ := hq
    have F₂ : Fr h₀ L h' m := after_F F' hkp
    have hfree : ∀ q ∈ new, q.1 ∉ as := fun q hq hb => by
      obtain ⟨e1, e2, e3⟩ := hfr q hq
      rcases List.mem_cons.mp hb with e | hb
      · exact e2 e
      · obtain ⟨p, hp, e⟩ := List.mem_map.mp hb; exact e3 p hp e
    have hnone : ∀ q ∈ new, s.heap.get? q.1 = none := fun q hq => (holes_off as s.heap (hfree q hq)).symm.trans (hfr q hq).1
    have nn : News h₀ L h' new := fun q hq => by
      refine ⟨hown q (List.mem_append.mpr (.inr hq)), fun e => ?_, ?_⟩
      · obtain ⟨oL, _, _, hL, _⟩ := F.ns
        have := hnone q hq
        rw [e, hL] at this; cases this
      · cases r : h₀.get? q.1 with
        | none => rfl
        | some x =>
          have := hnone q hq
          rw [F.keep _ _ r] at this; cases this
    refine ret h' tk' g' new o' kvs' ra its n hm hits F₂ (fun p hp => ?_) ho' hT' (fun q hq b hb e => ?_) hcnt hb
    · rcases List.mem_cons.mp hp with rfl | hp
      · exact ⟨hto, (N' _ (.head _)).2⟩
      rcases List.mem_append.mp hp with hp | hp
      · rcases List.mem_append.mp hp with hp | hp
        · exact ⟨hown p (List.mem_append.mpr (.inl hp)), (N' p (.tail _ hp)).2⟩
        · exact nn p hp
      · have hNp := N p (.tail _ (List.mem_append.mpr (.inr hp)))
        by_cases hb : p.1 ∈ as
        · rcases List.mem_cons.mp hb with e | hb
          · exact absurd e (hrs p hp)
          · obtain ⟨q, hq, e⟩ := List.mem_map.mp hb
            have h1 := (N' q (.tail _ hq)).1
            rw [e, hNp.1] at h1
            have h2 := hown q (List.mem_append.mpr (.inl hq))
            rw [e, ← Option.some.inj h1] at h2
            exact ⟨h2, hNp.2⟩
        · exact ⟨hkp _ _ ((holes_off as s.heap hb).trans hNp.1), hNp.2⟩
    · obtain ⟨p, hp, rfl⟩ := List.mem_map.mp hb
      have h1 := (N p hp).1
      rw [← e, hnone q hq] at h1; cases h1
end
end Mine

end

section
open PySem PySem.W PyProof.Rows PySem.Calls
namespace Mine
noncomputable def rows14 : List (List Nat) := [[40, 40, 40, 40, 41, 41, 41, 41], [40, 41, 40, 40, 40, 41, 41, 41], [40, 40, 41, 40, 40, 41, 41, 41],
  [40, 40, 40, 41, 40, 41, 41, 41], [40, 41, 40, 41, 40, 40, 41, 41], [40, 40, 41, 41, 40, 40, 41, 41],
  [40, 41, 40, 40, 41, 40, 41, 41], [40, 40, 41, 40, 41, 40, 41, 41], [40, 40, 40, 41, 41, 40, 41, 41],
  [40, 41, 40, 41, 40, 41, 40, 41], [40, 40, 41, 41, 40, 41, 40, 41], [40, 41, 40, 40, 41, 41, 40, 41],
  [40, 40, 41, 40, 41, 41, 40, 41], [40, 40, 40, 41, 41, 41, 40, 41]]
noncomputable def span14 : List (List Int) := [[4, 3, 2, 1], [1, 3, 2, 1], [4, 1, 2, 1], [4, 3, 1, 1], [1, 1, 2, 1], [2, 1, 2, 1], [1, 3, 1, 1], [4, 1, 1, 1],
  [4, 2, 1, 1], [1, 1, 1, 1], [2, 1, 1, 1], [1, 2, 1, 1], [3, 1, 1, 1], [3, 2, 1, 1]]
noncomputable def low14 : List (List Nat) := [[0, 3, 2, 1, 8, 6, 7, 5, 4, 13, 11, 12, 10, 9], [1, 6, 4, 11, 9], [2, 7, 5, 12, 4, 10, 9],
  [3, 8, 6, 7, 13, 11, 12, 9, 10], [4, 9], [5, 4, 10, 9], [6, 11, 9], [7, 12, 10, 9], [8, 7, 13, 12, 11, 10, 9], [9],
  [10, 9], [11, 9], [12, 10, 9], [13, 12, 11, 10, 9]]
noncomputable def row14 (i : Nat) : List Nat := rows14.getD i []
noncomputable def sp14 (i : Nat) : List Int := span14.getD i []
noncomputable def lo14 (i : Nat) : List Nat := low14.getD i []
noncomputable def dressL : List (List Nat) := [[], [92, 41], [34, 40, 34], [92, 92], [34, 92, 34, 41, 34], [92, 34]]
noncomputable def cntEq (ms : List Int) (turn : Nat) : Nat := ((List.range 4).filter fun (k : Nat) => decide ((k : Int) + (ms.getD k 0) = (turn : Int) + 1)).length
noncomputable def midL (ms : List Int) : List Nat := ((List.range 4).map fun turn => 40 :: List.replicate (cntEq ms turn) 41).flatten
noncomputable def extra : List Nat := [34, 92, 40]
noncomputable def third : List Nat := [40, 41, 40, 41, 41, 40, 40, 41]
noncomputable def textL (d x : List Nat) : List Nat := d ++ x.take 1 ++ d ++ extra ++ x.drop 1

noncomputable def all14 (P : Nat → Bool) : Bool := (List.range 14).all P
theorem all14_of {P : Nat → Bool} (h : all14 P = true) {i : Nat} (hi : i < 14) : P i = true := List.all_eq_true.mp h i (List.mem_range.mpr hi)
theorem mem14 {a : List Nat} (h : a ∈ rows14) : ∃ i, i < 14 ∧ a = row14 i := by
  obtain ⟨i, hi, rfl⟩ := List.mem_iff_getElem.mp h
  exact ⟨i, hi, by unfold row14; simp [hi]⟩
theorem pd_spans : (dressL.all fun d => all14 fun i => decide (spansL (row14 i) d = sp14 i)) = true := by decide +kernel
end Mine
namespace Mine
theorem pd_low : (dressL.all fun d => all14 fun i => decide (lowerL d (row14 i) = (lo14 i).map row14) && lowerOk d 30 [row14 i] 0) = true := by decide +kernel
end Mine
namespace Mine
theorem pd_text : (dressL.all fun d => all14 fun i => chkL (textL d (row14 i)) && !chkL (textL d (row14 i ++ [41])) && decide (row14 i ≠ third)) = true := by decide +kernel
theorem pd_third : (dressL.all fun d => !chkL (textL d third)) = true := by decide +kernel
theorem pd_len : (dressL.all fun d => decide (d.length < 100)) = true := by decide +kernel
theorem pd_row : (all14 fun i => decide ((row14 i).length = 8) && (signs (S (row14 i))).all PyData.strOk && decide ((lo14 i).length < 20) && (lo14 i).all (decide <| · < 14)) = true := by decide +kernel
theorem pd_span : (all14 fun i => decide ((sp14 i).length = 4) && (List.range 4).all fun k => decide (1 ≤ (sp14 i).getD k 0) && decide ((sp14 i).getD k 0 ≤ 4 - (k : Int))) = true := by decide +kernel
theorem pd_ok : (all14 fun i => PyData.strOk (S (row14 i))) = true := by decide +kernel
theorem pd_inj : (all14 fun i => all14 fun j => decide (row14 i = row14 j → i = j)) = true := by decide +kernel
noncomputable def pairOk (i j k : Nat) : Bool := decide (List.zipWith min (sp14 i) (sp14 j) = sp14 k) && decide (midL (sp14 k) = row14 k) && ((lo14 i).filter (lo14 j).contains).isPerm (lo14 k)
theorem pd_pair : (all14 fun i => all14 fun j => (List.range 14).any fun k => pairOk i j k) = true := by decide +kernel

noncomputable def rowB : List Bool → List Nat → List Nat
  | [], r => r
  | b :: bs, r => if r.count 40 = r.count 41 ∨ (r.count 40 < 4 ∧ b = true) then rowB bs (r ++ [40]) else rowB bs (r ++ [41])
theorem rowB_is : ∀ (ns : List Int) (r : List Nat), rowGo ns r = rowB (ns.map fun n => decide (n % 2 = 0)) r
  | [], _ => rfl
  | n :: ns, r => by
    rw [rowGo_cons, List.map_cons, rowB]
    have e : (r.count 40 = r.count 41 ∨ (r.count 40 < 4 ∧ n % 2 = 0)) ↔ (r.count 40 = r.count 41 ∨ (r.count 40 < 4 ∧ decide (n % 2 = 0) = true)) := by rw [decide_eq_true_iff]
    by_cases h : r.count 40 = r.count 41 ∨ (r.count 40 < 4 ∧ n % 2 = 0)
    · rw [if_pos h, if_pos (e.mp h)]; exact rowB_is ns _
    · rw [if_neg h, if_neg (fun x => h (e.mpr x))]; exact rowB_is ns _
noncomputable def bools : Nat → List (List Bool)
  | 0 => [[]]
  | n + 1 => (bools n).flatMap fun l => [true :: l, false :: l]
theorem mem_bools : ∀ (n : Nat) (l : List Bool), l.length = n → l ∈ bools n
  | 0, l, h => by rw [List.length_eq_zero_iff.mp h]; exact .head _
  | n + 1, b :: l, h => by
    rw [bools, List.mem_flatMap]
    exact ⟨l, mem_bools n l (Nat.succ.inj h), by cases b <;> simp⟩
theorem pd_rowB : ((bools 6).all fun b => rows14.contains (rowB b [40] ++ [41])) = true := by decide +kernel
theorem rowL_mem {ns : List Int} (h : ns.length = 6) : rowL ns ∈ rows14 := by
  have := List.all_eq_true.mp pd_rowB _ (mem_bools 6 (ns.map fun n => decide (n % 2 = 0)) (by rw [List.length_map]; exact h))
  unfold rowL
  rw [rowB_is]
  simpa using this
end Mine
namespace Mine
noncomputable def Bnd (A : List Int) : Prop := A.length = 4 ∧ ∀ (k : Nat) (n : Int), A[k]? = some n → 1 ≤ n ∧ n ≤ 4 - (k : Int)
theorem bnd_sp {i : Nat} (hi : i < 14) : Bnd (sp14 i) := by
  have h := all14_of pd_span hi
  rw [Bool.and_eq_true] at h
  have h4 := of_decide_eq_true h.1
  refine ⟨h4, fun k n hk => ?_⟩
  have hk4 : k < 4 := by
    rcases Nat.lt_or_ge k 4 with h | h'
    · exact h
    · rw [List.getElem?_eq_none (by rw [h4]; exact h')] at hk; cases hk
  have h2 := List.all_eq_true.mp h.2 k (List.mem_range.mpr hk4)
  rw [List.getD_eq_getElem?_getD, hk] at h2
  simpa using h2
structure RowOk (a d : List Nat) : Prop where
  len : a.length = 8
  oks : Oks (signs (S a))
  bnd : Bnd (spansL a d)
  low : lowerOk d 30 [a] 0 = true
  few : (lowerL d a).length < 20
  okl : Oks ((lowerL d a).map S)
structure MidOk (a b d : List Nat) (ms : List Int) (mid : List Nat) : Prop where
  em : ms = List.zipWith min (spansL a d) (spansL b d)
  ed : mid = midL ms
  row : RowOk mid d
  sp : spansL mid d = ms
  t1 : chkL (textL d mid) = true
  t2 : chkL (textL d (mid ++ [41])) = false
  t3 : chkL (textL d third) = false
  ne : mid ≠ third
  perm : ((lowerL d a).filter ((lowerL d b).contains ·)).Perm (lowerL d mid)
theorem dress_len {d : List Nat} (hd : d ∈ dressL) : d.length < 100 := of_decide_eq_true (List.all_eq_true.mp pd_len d hd)
theorem spans_is {d : List Nat} (hd : d ∈ dressL) {i : Nat} (hi : i < 14) : spansL (row14 i) d = sp14 i := of_decide_eq_true (all14_of (List.all_eq_true.mp pd_spans d hd) hi)
theorem low_is {d : List Nat} (hd : d ∈ dressL) {i : Nat} (hi : i < 14) : lowerL d (row14 i) = (lo14 i).map row14 ∧ lowerOk d 30 [row14 i] 0 = true := by
  have h := all14_of (List.all_eq_true.mp pd_low d hd) hi
  rw [Bool.and_eq_true] at h
  exact ⟨of_decide_eq_true h.1, h.2⟩
theorem row_facts {i : Nat} (hi : i < 14) : (row14 i).length = 8 ∧ Oks (signs (S (row14 i))) ∧ (lo14 i).length < 20 ∧ ∀ j ∈ lo14 i, j < 14 := by
  have h := all14_of pd_row hi
  simp only [Bool.and_eq_true, decide_eq_true_eq] at h
  exact ⟨h.1.1.1, oks_all h.1.1.2, h.1.2, fun j hj => of_decide_eq_true (List.all_eq_true.mp h.2 j hj)⟩
theorem rowOk_of {d : List Nat} (hd : d ∈ dressL) {i : Nat} (hi : i < 14) : RowOk (row14 i) d := by
  obtain ⟨h1, h2, h3, h4⟩ := row_facts hi
  obtain ⟨h5, h6⟩ := low_is hd hi
  refine ⟨h1, h2, by rw [spans_is hd hi]; exact bnd_sp hi, h6, by rw [h5, List.length_map]; exact h3, fun x hx => ?_⟩
  rw [h5, List.map_map] at hx
  obtain ⟨j, hj, rfl⟩ := List.mem_map.mp hx
  exact all14_of pd_ok (h4 j hj)
theorem inj14 {i j : Nat} (hi : i < 14) (hj : j < 14) (h : row14 i = row14 j) : i = j := of_decide_eq_true (all14_of (all14_of pd_inj hi) hj) h
theorem contains_map {l : List Nat} (hl : ∀ j ∈ l, j < 14) {i : Nat} (hi : i < 14) : (l.map row14).contains (row14 i) = l.contains i := by
  rw [Bool.eq_iff_iff, List.contains_iff_mem, List.contains_iff_mem, List.mem_map]
  exact ⟨fun ⟨j, hj, e⟩ => inj14 (hl j hj) hi e ▸ hj, fun h => ⟨i, h, rfl⟩⟩
theorem filter_map14 {l : List Nat} (hl : ∀ j ∈ l, j < 14) : ∀ {k : List Nat}, (∀ j ∈ k, j < 14) → (k.map row14).filter ((l.map row14).contains ·) = (k.filter (l.contains ·)).map row14
  | [], _ => rfl
  | i :: k, hk => by
    have ih := filter_map14 hl (k := k) fun j hj => hk j (.tail _ hj)
    have hc := contains_map hl (hk i (.head _))
    rw [List.map_cons]
    cases q : l.contains i with
    | true => rw [List.filter_cons_of_pos (by rw [hc, q]), List.filter_cons_of_pos (by rw [q]), List.map_cons, ih]
    | false => rw [List.filter_cons_of_neg (by rw [hc, q]; decide), List.filter_cons_of_neg (by rw [q]; decide), ih]
theorem rowOk {a d : List Nat} (ha : a ∈ rows14) (hd : d ∈ dressL) : RowOk a d := by
  obtain ⟨i, hi, rfl⟩ := mem14 ha
  exact rowOk_of hd hi
theorem plain {a b d : List Nat} (ha : a ∈ rows14) (hb : b ∈ rows14) (hd : d ∈ dressL) : ∃ ms mid, MidOk a b d ms mid := by
  obtain ⟨i, hi, rfl⟩ := mem14 ha
  obtain ⟨j, hj, rfl⟩ := mem14 hb
  obtain ⟨k, hk, hp⟩ := List.any_eq_true.mp (all14_of (all14_of pd_pair hi) hj)
  have hk := List.mem_range.mp hk
  simp only [pairOk, Bool.and_eq_true, decide_eq_true_eq] at hp
  obtain ⟨⟨p1, p2⟩, p3⟩ := hp
  have ht := all14_of (List.all_eq_true.mp pd_text d hd) hk
  simp only [Bool.and_eq_true, decide_eq_true_eq, Bool.not_eq_true'] at ht
  have h3 := List.all_eq_true.mp pd_third d hd
  rw [Bool.not_eq_true'] at h3
  refine ⟨sp14 k, row14 k, by rw [spans_is hd hi, spans_is hd hj, p1], p2.symm, rowOk_of hd hk, spans_is hd hk, ht.1.1, ht.1.2, h3, ht.2, ?_⟩
  rw [(low_is hd hi).1, (low_is hd hj).1, (low_is hd hk).1, filter_map14 (row_facts hj).2.2.2 (row_facts hi).2.2.2]
  exact (List.isPerm_iff.mp p3).map row14
end Mine

end

section
open PySem PySem.W PyProof.Rows PySem.Calls
namespace Mine
theorem fmod6 (x : Int) : 0 ≤ Int.fmod x 6 ∧ Int.fmod x 6 < 6 := by
  rw [Int.fmod_eq_emod_of_nonneg _ (by decide)]; omega
theorem dress_item {w : World} {A : Around} {E : Value → Shared → Prop} {s : Shared} {h₀ : Heap} {L l : Addr} {x : Int} {u t0 t1 t2 t3 t4 t5 : Tok} {n : Nat} {led : List (Addr × Obj)} {value slice : PySem.Expr} {Q : Value → Shared → Prop}
    (N : News h₀ L s.heap led) (hm : (l, listOf #[.str (Str.ofString "") t0, .str (Str.ofString "\\)") t1, .str (Str.ofString "\"(\"") t2, .str (Str.ofString "\\\\") t3, .str (Str.ofString "\"\\\")\"") t4, .str (Str.ofString "\\\"") t5] n) ∈ led)
    (h : ∀ d t, d ∈ dressL → Q (.str (S d) t) s)
    (hs : subscripted slice false (.ref l) (.int (Int.fmod x 6) u) = operate [.ref l, .int (Int.fmod x 6) u] (getItem (.ref l) (.int (Int.fmod x 6) u)) := by with_unfolding_all rfl) :
    wpAny (model PR w) A (subscriptTail value slice (.ref l) (.int (Int.fmod x 6) u)) Q E s := by
  have h6 := fmod6 x
  have hk := lt6 (k := (Int.fmod x 6).toNat) ((Int.toNat_lt h6.1).mpr h6.2)
  have go : ∀ (v : Value), #[Value.str (Str.ofString "") t0, .str (Str.ofString "\\)") t1, .str (Str.ofString "\"(\"") t2, .str (Str.ofString "\\\\") t3, .str (Str.ofString "\"\\\")\"") t4, .str (Str.ofString "\\\"") t5][(Int.fmod x 6).toNat]? = some v → Q v s →
      wpAny (model PR w) A (subscriptTail value slice (.ref l) (.int (Int.fmod x 6) u)) Q E s := fun v hv hQ =>
    have hl : s.heap.IsList l _ := ⟨_, (N _ hm).1, rfl, n, rfl⟩
    tail_any hl.typeIs slot_list_getitem.lookup (wpAny_getItem_list hl h6.1 (by omega) hv hQ) hs
  rcases hk with e | e | e | e | e | e
  · exact go _ (by rw [e]; rfl) (by rw [show Str.ofString "" = S [] by decide]; exact h _ _ (by decide))
  · exact go _ (by rw [e]; rfl) (by rw [show Str.ofString "\\)" = S [92, 41] by decide]; exact h _ _ (by decide))
  · exact go _ (by rw [e]; rfl) (by rw [show Str.ofString "\"(\"" = S [34, 40, 34] by decide]; exact h _ _ (by decide))
  · exact go _ (by rw [e]; rfl) (by rw [show Str.ofString "\\\\" = S [92, 92] by decide]; exact h _ _ (by decide))
  · exact go _ (by rw [e]; rfl) (by rw [show Str.ofString "\"\\\")\"" = S [34, 92, 34, 41, 34] by decide]; exact h _ _ (by decide))
  · exact go _ (by rw [e]; rfl) (by rw [show Str.ofString "\\\"" = S [92, 34] by decide]; exact h _ _ (by decide))
theorem pick_len {ns : List Int} (h : ns.length = 12) : (pickI ns (some 0) none (some 2)).length = 6 ∧ (pickI ns (some 1) none (some 2)).length = 6 := by
  obtain ⟨a, na, rfl, ha⟩ := list_cons h
  obtain ⟨b, nb, rfl, hb⟩ := list_cons ha
  obtain ⟨c, nc, rfl, hc⟩ := list_cons hb
  obtain ⟨d, nd, rfl, hd⟩ := list_cons hc
  obtain ⟨e, ne, rfl, he⟩ := list_cons hd
  obtain ⟨f, nf, rfl, hf⟩ := list_cons he
  obtain ⟨g, ng, rfl, hg⟩ := list_cons hf
  obtain ⟨i, ni, rfl, hi⟩ := list_cons hg
  obtain ⟨j, k, l, m, rfl⟩ := list_four hi
  · have e0 : sliceRange (sliceBounds (some 0) none (some 2) 12).1 (sliceBounds (some 0) none (some 2) 12).2.1 (sliceBounds (some 0) none (some 2) 12).2.2 = [0, 2, 4, 6, 8, 10] := by decide +kernel
    have e1 : sliceRange (sliceBounds (some 1) none (some 2) 12).1 (sliceBounds (some 1) none (some 2) 12).2.1 (sliceBounds (some 1) none (some 2) 12).2.2 = [1, 3, 5, 7, 9, 11] := by decide +kernel
    unfold pickI
    rw [show [a, b, c, d, e, f, g, i, j, k, l, m].length = 12 from rfl, e0, e1]
    exact ⟨rfl, rfl⟩
end Mine

end

section
open PySem PySem.W PyProof.Rows PySem.Calls
namespace Mine
noncomputable abbrev ritO (a n : Int) : Obj := { cls := .type "range_iterator", data := .fields #[rawInt a, rawInt n, rawInt 1] }
noncomputable abbrev cellO (v : Option Value) : Obj := { cls := .type "cell", data := .cell v }
inductive TurnC (h₀ : Heap) (L : Addr) (m : Str → Option Value) (s : Shared) (led : List (Addr × Obj)) (P : Value → Prop) (y : Value) (s' : Shared) : Prop
  | mk (h' : Heap) (tk' : Tok) (e : s' = { s with heap := h', toks := tk' }) (F : Fr h₀ L h' m) (N : News h₀ L h' led) (p : P y)
inductive SrcC (w : World) (A : Around) (h₀ : Heap) (L : Addr) (m : Str → Option Value) (env : Env) (elt : PySem.Expr) (x : Str) (scope : Scope) (cl : List (Str × Addr)) (n : Nat) (Q : Value → Shared → Prop) (xv : Value) (s₁ : Shared) : Prop
  | mk (r : Addr) (t u v : Tok) (news : List (Addr × Obj)) (P : Nat → Value → Prop) (e : xv = .ref r) (F : Fr h₀ L s₁.heap m) (N : News h₀ L s₁.heap news) (hr : IsRange s₁.heap r 0 (n : Int) 1 t u v)
    (turn : ∀ (i : Nat) t T oT I oI C oC D ys h tk E', i < n → oT.data = .cell (some (.int (i : Int) t)) → Fr h₀ L h m → News h₀ L h ((T, oT) :: (I, oI) :: (C, oC) :: (D, LCg.lst ys) :: news) →
      wpAny (model PR w) A (eval elt (compEnvC scope ((x, T) :: cl) C env)) (TurnC h₀ L m { s₁ with heap := h, toks := tk } ((T, oT) :: (I, oI) :: (C, oC) :: (D, LCg.lst ys) :: news) (P i)) E' { s₁ with heap := h, toks := tk })
    (fin : ∀ D h tk ys, Fr h₀ L h m → News h₀ L h ((D, LCg.lst ys) :: news) → (∀ p ∈ news, p.1 < D) → ys.length = n → (∀ i v, ys[i]? = some v → P i v) → Q (.ref D) { s₁ with heap := h, toks := tk })

/-- what holds ahead of each turn of such a comprehension -/
inductive CompI (h₀ : Heap) (L : Addr) (m : Str → Option Value) (s : Shared) (n : Nat) (P : Nat → Value → Prop) (I D C T : Addr) (news : List (Addr × Obj)) (k : Nat) (s' : Shared) : Prop
  | mk (i : Nat) (h' : Heap) (tk : Tok) (ys : List Value) (oT oI oC : Obj) (mC : Str → Option Value) (v₀ : Option Value) (e : s' = { s with heap := h', toks := tk }) (hi : i ≤ n) (hk : k = n + 1 - i) (hy : ys.length = i) (hP : ∀ j v, ys[j]? = some v → P j v) (st : IsRangeIter h' I (0 + (i : Nat) * 1) ((n : Int) - (i : Nat)) 1) (F : Fr h₀ L h' m)
    (N : News h₀ L h' ((T, oT) :: (I, oI) :: (C, oC) :: (D, LCg.lst ys) :: news)) (hT : oT.data = .cell v₀) (hC : LCg.NsObj oC mC)
section
variable {w : World} {A : Around} {E : Value → Shared → Prop} {s : Shared} {h₀ : Heap} {L : Addr} {m : Str → Option Value} {env : Env}
theorem comp_loop {elt iter : PySem.Expr} {x : Str} {px pos : Pos} {scope : Scope} {cl : List (Str × Addr)} {Q : Value → Shared → Prop} (n : Nat) (hn : n ≤ 100) (hh : A.handled = none)
    (hkind : scope.kind = .function) (hx : (relabel scope env).names.lookup x = some .cell)
    {I D C T : Addr} {news : List (Addr × Obj)} {oT oI oC : Obj} {mC : Str → Option Value} {v₀ : Option Value} {P : Nat → Value → Prop} {h₄ : Heap} {tk₄ : Nat} (hID : I < D) (hDC : D < C) (hCT : C < T) (nw : ∀ p ∈ news, p.1 < I)
    (st : IsRangeIter h₄ I 0 (n : Int) 1) (F : Fr h₀ L h₄ m) (N : News h₀ L h₄ ((T, oT) :: (I, oI) :: (C, oC) :: (D, LCg.lst []) :: news)) (hT : oT.data = .cell v₀) (hC : LCg.NsObj oC mC)
    (turn : ∀ (i : Nat) t T oT I oI C oC D ys h tk E', i < n → oT.data = .cell (some (.int (i : Int) t)) → Fr h₀ L h m → News h₀ L h ((T, oT) :: (I, oI) :: (C, oC) :: (D, LCg.lst ys) :: news) →
      wpAny (model PR w) A (eval elt (compEnvC scope ((x, T) :: cl) C env)) (TurnC h₀ L m { s with heap := h, toks := tk } ((T, oT) :: (I, oI) :: (C, oC) :: (D, LCg.lst ys) :: news) (P i)) E' { s with heap := h, toks := tk })
    (fin : ∀ D h tk ys, Fr h₀ L h m → News h₀ L h ((D, LCg.lst ys) :: news) → (∀ p ∈ news, p.1 < D) → ys.length = n → (∀ i v, ys[i]? = some v → P i v) → Q (.ref D) { s with heap := h, toks := tk }) :
    codeAny (model PR w) A (.compLoop (.ListComp elt [⟨.Name x px, iter, [], 0⟩] scope pos) 0 (.ref I) (.ref D) (compEnvC scope ((x, T) :: cl) C env)) (compPost (model PR w) A E none Q (.ref D) C) { s with heap := h₄, toks := tk₄ } := by
  have hIC : I < C := Nat.lt_trans hID hDC
  have hDT : D < T := Nat.lt_trans hDC hCT
  have hIT : I < T := Nat.lt_trans hID hDT
  have W := LCg.range_walks (prog := PR) (w := w) (I := I) hh 0 n
  have tI : ∀ {oT oI oC : Obj} {ys : List Value} {h : Heap}, News h₀ L h ((T, oT) :: (I, oI) :: (C, oC) :: (D, LCg.lst ys) :: news) → I ≠ L ∧ h₀.get? I = none ∧ T ≠ L ∧ h₀.get? T = none ∧ C ≠ L ∧ h₀.get? C = none ∧ D ≠ L ∧ h₀.get? D = none := fun N =>
    ⟨(N _ (.tail _ (.head _))).2.1, (N _ (.tail _ (.head _))).2.2, (N _ (.head _)).2.1, (N _ (.head _)).2.2, (N _ (.tail _ (.tail _ (.head _)))).2.1, (N _ (.tail _ (.tail _ (.head _)))).2.2, (N _ (.tail _ (.tail _ (.tail _ (.head _))))).2.1, (N _ (.tail _ (.tail _ (.tail _ (.head _))))).2.2⟩
  obtain ⟨hIL, hI0, hTL, hT0, hCL, hC0, hDL, hD0⟩ := tI N
  refine codeAny_compLoop_tests
    (CompI h₀ L m s n P I D C T news) ?_ (n + 1)
    ⟨0, h₄, tk₄, [], oT, oI, oC, mC, v₀, rfl, Nat.zero_le _, rfl, rfl, (fun j v e => by simp at e), by simpa using st, F, N, hT, hC⟩
  rintro k s' ⟨i, h', tk, ys, oT, oI, oC, mC, v₀, rfl, hi, rfl, hyl, hP, st, F, N, hT, hC⟩
  by_cases hlt : i < n
  · refine W.item i _ _ _ hlt st fun v h₂ tk₂ hPv st₂ hk₂ => ?_
    obtain ⟨t, rfl⟩ := hPv
    rw [Int.zero_add]
    have keep2 : ∀ b o, b ≠ I → h'.get? b = some o → h₂.get? b = some o := fun b o hb => hk₂ b o (by simpa using hb)
    refine wpAny_assign_Name (wpAny_storeName_cell (by show scope.kind = .function; exact hkind) hx (show List.lookup x ((x, T) :: cl) = some T by simp) ⟨oT, keep2 _ _ (Nat.ne_of_gt hIT) (N _ (.head _)).1, hT⟩ fun h₃ hc₃ hs₃ => ?_)
    refine wpAny_tests_nil ?_
    simp only [if_true]
    obtain ⟨oT', hoT', hT'⟩ := hc₃
    have st₃ : h₃.get? I = some (ritO (0 + ((i + 1 : Nat) : Int) * 1) ((n : Int) - ((i + 1 : Nat) : Int))) := hs₃.extBut _ _ (Nat.ne_of_lt hIT) st₂
    have F₃ : Fr h₀ L h₃ m := (LCg.fr_but F hk₂ (Ne.symm hIL) hI0).change hs₃ hTL hT0
    have N₃ : News h₀ L h₃ ((T, oT') :: (I, ritO (0 + ((i + 1 : Nat) : Int) * 1) ((n : Int) - ((i + 1 : Nat) : Int))) :: (C, oC) :: (D, LCg.lst ys) :: news) := fun p hp => by
      rcases List.mem_cons.mp hp with rfl | hp
      · exact ⟨hoT', hTL, hT0⟩
      rcases List.mem_cons.mp hp with rfl | hp
      · exact ⟨st₃, hIL, hI0⟩
      have hNp := N p (.tail _ (.tail _ hp))
      have hpI : p.1 ≠ I ∧ p.1 ≠ T := by
        rcases List.mem_cons.mp hp with rfl | hp
        · exact ⟨Nat.ne_of_gt hIC, Nat.ne_of_lt hCT⟩
        rcases List.mem_cons.mp hp with rfl | hp
        · exact ⟨Nat.ne_of_gt hID, Nat.ne_of_lt hDT⟩
        · have := nw p hp; exact ⟨Nat.ne_of_lt this, Nat.ne_of_lt (Nat.lt_trans this hIT)⟩
      exact ⟨hs₃.extBut _ _ hpI.2 (keep2 _ _ hpI.1 hNp.1), hNp.2⟩
    refine wpAny_mono (turn i t T oT' I _ C oC D ys h₃ _ _ hlt hT' F₃ N₃) (fun y s₅ hy => ?_) fun _ _ e => e
    obtain ⟨h₅, tk₅, rfl, F₅, N₅, hPy⟩ := hy
    refine append_at (hsz := by show ys.toArray.size ≤ sizeLine; rw [List.size_toArray, hyl, sizeLine_eq]; omega) (N₅ _ (.tail _ (.tail _ (.tail _ (.head _))))).1 fun h₆ hs₆ hD₆ => ?_
    have st₆ : h₆.get? I = some (ritO (0 + ((i + 1 : Nat) : Int) * 1) ((n : Int) - ((i + 1 : Nat) : Int))) := hs₆.extBut I _ (Nat.ne_of_lt hID) (N₅ (I, _) (.tail _ (.head _))).1
    refine ⟨n + 1 - (i + 1), by omega, i + 1, h₆, _, ys ++ [y], oT', ritO (0 + ((i + 1 : Nat) : Int) * 1) ((n : Int) - ((i + 1 : Nat) : Int)), oC, mC, _, rfl, hlt, rfl, by rw [List.length_append, List.length_singleton, hyl], fun j v hj => ?_, st₆, F₅.change hs₆ hDL hD0, fun p hp => ?_, hT', hC⟩
    · rcases Nat.lt_or_ge j ys.length with hjl | hjl
      · rw [List.getElem?_append_left hjl] at hj; exact hP j v hj
      · rw [List.getElem?_append_right hjl] at hj
        have : j = i := by
          rcases Nat.lt_or_ge (j - ys.length) 1 with h | h
          · omega
          · rw [List.getElem?_eq_none (by simpa using h)] at hj; cases hj
        subst this
        rw [hyl, Nat.sub_self] at hj
        simp at hj; subst hj; exact hPy
    · rcases List.mem_cons.mp hp with rfl | hp
      · exact ⟨hs₆.extBut _ _ (Nat.ne_of_gt hDT) (N₅ _ (.head _)).1, hTL, hT0⟩
      rcases List.mem_cons.mp hp with rfl | hp
      · exact ⟨st₆, hIL, hI0⟩
      rcases List.mem_cons.mp hp with rfl | hp
      · exact ⟨hs₆.extBut _ _ (Nat.ne_of_gt hDC) (N₅ _ (.tail _ (.tail _ (.head _)))).1, hCL, hC0⟩
      rcases List.mem_cons.mp hp with rfl | hp
      · exact ⟨hD₆.trans (congrArg some (LCg.lst_snoc ys y)), hDL, hD0⟩
      · have hNp := N₅ p (.tail _ (.tail _ (.tail _ (.tail _ hp))))
        have := nw p hp
        exact ⟨hs₆.extBut _ _ (Nat.ne_of_lt (Nat.lt_trans this hID)) hNp.1, hNp.2⟩
  · obtain rfl : i = n := Nat.le_antisymm hi (Nat.not_lt.mp hlt)
    refine W.done _ _ _ st fun h₂ tk₂ hk₂ => ?_
    have keep2 : ∀ b o, b ≠ I → h'.get? b = some o → h₂.get? b = some o := fun b o hb => hk₂ b o (by simpa using hb)
    refine ⟨mC, ?_, fun h₃ hs₃ => ?_⟩
    · exact hC.ns (keep2 _ _ (Nat.ne_of_gt hIC) (N _ (.tail _ (.tail _ (.head _)))).1)
    · refine fin D h₃ _ ys ((LCg.fr_but F hk₂ (Ne.symm hIL) hI0).change hs₃ hCL hC0) (fun p hp => ?_) (fun p hp => Nat.lt_trans (nw p hp) hID) hyl hP
      rcases List.mem_cons.mp hp with rfl | hp
      · exact ⟨hs₃.extBut _ _ (Nat.ne_of_lt hDC) (keep2 _ _ (Nat.ne_of_gt hID) (N _ (.tail _ (.tail _ (.tail _ (.head _))))).1), hDL, hD0⟩
      · have hNp := N p (.tail _ (.tail _ (.tail _ (.tail _ hp))))
        have := nw p hp
        exact ⟨hs₃.extBut _ _ (Nat.ne_of_lt (Nat.lt_trans this hIC)) (keep2 _ _ (Nat.ne_of_lt this) hNp.1), hNp.2⟩

/-- a comprehension over range(n) whose name is a cell of its own -/
theorem comp_cell {elt iter : PySem.Expr} {x : Str} {px pos : Pos} {scope : Scope} {cl : List (Str × Addr)} {Q : Value → Shared → Prop} (F₀ : Fr h₀ L s.heap m) (n : Nat) (hn : n ≤ 100)
    (hclos : closureFor scope env = pure cl) (hkind : scope.kind = .function) (hnames : ∀ y ∈ scope.names, y.2 = .local → scope.names.lookup y.1 = some .local)
    (hx : (relabel scope env).names.lookup x = some .cell) (hcf : ∀ a, cellsFrom a scope.names cl = (x, a) :: cl) (hpc : ∀ h : Heap, pushCells h scope.names = h.push (cellO none)) (hh : A.handled = none)
    (h : wpAny (model PR w) A (eval iter env) (SrcC w A h₀ L m env elt x scope cl n Q) E s) (hs : ∀ x, foldedSetIterable iter env x = pure x := by intro _; rfl) :
    wpAny (model PR w) A (eval (.ListComp elt [⟨.Name x px, iter, [], 0⟩] scope pos) env) Q E s := by
  rw [eval_ListComp]
  refine wpAny_comprehension_free (use := none) rfl hs hclos hkind hnames (wpAny_mono h (fun xv s₁ h₁ => ?_) fun _ _ e => e)
  obtain ⟨r, t, u, v, news, P, rfl, F, N, hr, turn, fin⟩ := h₁
  refine wpAny_pyIter_range hr (small_one (by omega) (by omega) (by omega) (by omega)) ?_
  have hrn : Builtin.Range.rangeSize 0 (n : Int) 1 = (n : Int) := by rw [rangeSize_one]; split <;> omega
  rw [hrn]
  have nw : ∀ p ∈ news, p.1 < s₁.heap.objs.size := fun p hp => Heap.lt_size (N p hp).1
  have hLs : L < s₁.heap.objs.size := F.ns.lt
  refine wpAny_newObj_type ?_
  dsimp only
  unfold newFunctionEnv
  simp only [Option.isSome_some, if_true]
  refine wpAny_bind (wpAny_alloc ?_)
  refine wpAny_bind (wpAny_layCells _ (fun name kind cells => by cases hkc : kind == NameKind.cell <;> simp [hkc]) _ _ _ _ ?_)
  rw [hcf, hpc]
  simp only [List.forIn_nil, pure_bind]
  refine wpAny_pure ?_
  dsimp only
  have F₁ := F.push { cls := .type "range_iterator", data := .fields #[rawInt 0, rawInt (n : Int), rawInt 1] }
  have N₁ := news_push F N (o := { cls := .type "range_iterator", data := .fields #[rawInt 0, rawInt (n : Int), rawInt 1] }) rfl
  have F₂ := F₁.push { cls := .type "list", data := .seq #[] }
  have N₂ := news_push F₁ N₁ (o := { cls := .type "list", data := .seq #[] }) rfl
  have F₃ := F₂.push { cls := .type "dict", data := .dict #[] }
  have N₃ := news_push F₂ N₂ (o := { cls := .type "dict", data := .dict #[] }) rfl
  have F₄ := F₃.push (cellO none)
  have N₄ := news_push F₃ N₃ (o := cellO none) rfl
  have up : ∀ (h : Heap) (o : Obj), h.objs.size < (h.push o).objs.size := fun h o => by rw [Heap.size_push]; exact Nat.lt_succ_self _
  have loop := comp_loop (env := env) (elt := elt) (iter := iter) (px := px) (pos := pos) (E := E) (tk₄ := s₁.toks) n hn hh hkind hx (up _ _) (up _ _) (up _ _) nw
    (N₄ _ (.tail _ (.tail _ (.tail _ (.head _))))).1 F₄ (news_sub N₄ fun p hp => by
      simp only [List.mem_cons] at hp ⊢
      rcases hp with h | h | h | h | h
      · exact .inl h
      · exact .inr (.inr (.inr (.inl h)))
      · exact .inr (.inl h)
      · exact .inr (.inr (.inl h))
      · exact .inr (.inr (.inr (.inr h)))) rfl (mC := fun _ => none) ⟨_, _, rfl, (fun e he => by simp at he), fun _ => rfl⟩ turn fin
  exact codeAny_compStart_list loop ((LCg.range_walks (prog := PR) (w := w) hh 0 n).self 0 _ _ _ (by
    show IsRangeIter _ _ _ _ _
    have := (N₄ _ (.tail _ (.tail _ (.tail _ (.head _))))).1
    simpa using this) loop)
end
end Mine

end

section
open PySem PySem.W PyProof.Rows PySem.Calls
namespace Mine
theorem count_is (ms : List Int) (i : Nat) : (List.map PyData.int (List.filter (fun a => a + ms.getD a.toNat 0 == ((i : Nat) : Int) + 1) (rangeInts 0 1 ((4 : Int) - 0).toNat))).length = cntEq ms i := by
  rw [List.length_map]
  unfold cntEq rangeInts
  rw [show ((4 : Int) - 0).toNat = 4 from rfl, List.filter_map, List.length_map]
  congr 1
theorem cnt_le (ms : List Int) (i : Nat) : cntEq ms i ≤ 4 := by
  unfold cntEq
  exact Nat.le_trans (List.length_filter_le _ _) (by simp)
theorem mul_close (c : Nat) : Str.ofString "(" ++ Txt.mul (Str.ofString ")") (c : Int) = S (40 :: List.replicate c 41) := by
  rw [open_is, close_is, show Txt.mul (S [41]) (c : Int) = S (List.replicate c 41) from (S_of _).trans (congrArg S (mul_one_list 41 (c : Int))), S_app]
  rfl
theorem join_mid (ms : List Int) {vs : List Value} (h4 : vs.length = 4) (h : ∀ (i : Nat) (v : Value), vs[i]? = some v → ∃ t, v = Value.str (S (40 :: List.replicate (cntEq ms i) 41)) t) : StrsAre vs (((List.range 4).map fun i => 40 :: List.replicate (cntEq ms i) 41).map S) := by
  obtain ⟨a, b, c, d, rfl⟩ := list_four h4
  · obtain ⟨t0, rfl⟩ := h 0 a rfl
    obtain ⟨t1, rfl⟩ := h 1 b rfl
    obtain ⟨t2, rfl⟩ := h 2 c rfl
    obtain ⟨t3, rfl⟩ := h 3 d rfl
    exact .cons _ _ (.cons _ _ (.cons _ _ (.cons _ _ .nil)))
end Mine
namespace Mine
theorem text_is (d x : List Nat) : S d ++ Txt.slice (S x) none (some 1) ++ S d ++ Str.ofString "\"\\(" ++ Txt.slice (S x) (some 1) none = S (textL d x) := by
  rw [show (some (1 : Int)) = some ((1 : Nat) : Int) from rfl, slice_to, slice_from, show Str.ofString "\"\\(" = S extra by decide, S_app, S_app, S_app, S_app]
  rfl
theorem third_is : Str.ofString "()())(()" = S third := by decide
theorem more_is (x : List Nat) : S x ++ Str.ofString ")" = S (x ++ [41]) := by rw [close_is, S_app]
theorem textL_len {d x : List Nat} (hd : d.length < 100) (hx : x.length < 100) : (textL d x).length < 1000 := by
  unfold textL extra
  simp only [List.length_append, List.length_take, List.length_drop, List.length_cons, List.length_nil]
  omega
end Mine

end

section
open PySem PySem.W PyProof.Rows PySem.Calls
namespace Mine
end Mine

end

section
open PySem PySem.W PyProof.Rows PySem.Calls
namespace Mine
noncomputable def textJ (mF : Str → Option Value) (_ : Nat) (m : Str → Option Value) (mine : List (Addr × Obj)) : Prop := mine = [] ∧ ∃ v, m = fun y => if y = Str.ofString "text" then v else mF y
theorem textJ_zero (mF : Str → Option Value) : textJ mF 0 mF [] := ⟨rfl, mF (Str.ofString "text"), by funext y; by_cases e : y = Str.ofString "text" <;> simp [e]⟩
/-- the three texts of the law, and what the check says of them -/
theorem text_items {a b d : List Nat} {ms : List Int} {mid : List Nat} (M : MidOk a b d ms mid) {t0 t1 t2 : Tok} {i : Nat} {v : Value} (hv : (#[Value.str (S mid) t0, .str (S mid ++ Str.ofString ")") t1, .str (Str.ofString "()())(()") t2] : Array Value)[i]? = some v) :
    ∃ x t, v = .str (S x) t ∧ chkL (textL d x) = (x == mid) ∧ x.length < 100 := by
  have h8 := M.row.len
  match i, hv with
  | 0, hv => cases hv; exact ⟨mid, t0, rfl, by rw [M.t1]; simp, by rw [h8]; decide⟩
  | 1, hv =>
    cases hv
    refine ⟨mid ++ [41], t1, by rw [← more_is]; rfl, ?_, by rw [List.length_append, h8]; decide⟩
    rw [M.t2, eq_comm, beq_eq_false_iff_ne]
    intro e
    have := congrArg List.length e
    rw [List.length_append] at this; simp at this
  | 2, hv =>
    cases hv
    refine ⟨third, t2, by rw [← third_is]; rfl, ?_, by decide⟩
    rw [M.t3, eq_comm, beq_eq_false_iff_ne]
    exact fun e => M.ne e.symm
  | n + 3, hv => simp at hv
end Mine
namespace Mine
theorem hrest_of {h₀ h : Heap} {L tb : Addr} {o : Obj} {rest : List (Addr × Obj)} (N₀ : News h₀ L h ((tb, o) :: rest)) (H : ∀ p ∈ rest, p.1 ≠ tb) : ∀ p ∈ rest, p.1 ≠ tb := H
/-- the ledger behind two calls of _law_lower: what they made at its end -/
theorem tail_of {h₀ h : Heap} {L tb : Addr} {o o₁ o₂ : Obj} {n₁ n₂ rest : List (Addr × Obj)} (N : News h₀ L h ((tb, o) :: (n₁ ++ n₂ ++ rest))) (off₁ : OwnOff n₁ (((tb, o₁) :: rest).map (·.1))) (off₂ : OwnOff n₂ (((tb, o₂) :: (n₁ ++ rest)).map (·.1))) :
    ∃ tl, tl = n₁ ++ n₂ ∧ News h₀ L h ((tb, o) :: (rest ++ tl)) ∧ OwnOff tl (((tb, o) :: rest).map (·.1)) := by
  refine ⟨_, rfl, news_sub N fun p hp => ?_, fun p hp b hb => ?_⟩
  · rcases List.mem_cons.mp hp with rfl | hp
    · exact .head _
    · exact .tail _ (List.mem_append.mpr (List.mem_append.mp hp).symm)
  · rcases List.mem_append.mp hp with hp | hp
    · exact off₁ p hp b hb
    · refine off₂ p hp b ?_
      rcases List.mem_cons.mp hb with rfl | hb
      · exact .head _
      · refine .tail _ ?_
        rw [List.map_append]
        exact List.mem_append.mpr (.inr hb)
end Mine
namespace Mine
end Mine
namespace Mine
theorem news_p1 {h₀ h : Heap} {L : Addr} {a b c c4 c3 c2 c1 : Addr × Obj} (N : News h₀ L h [a, b, c, c4, c3, c2, c1]) : News h₀ L h [b, c4, c3] := news_sub N fun p hp => by
  simp only [List.mem_cons, List.not_mem_nil, or_false] at hp ⊢
  rcases hp with h | h | h <;> simp [h]
end Mine
namespace Mine
theorem news_r2 {h₀ h : Heap} {L : Addr} {a q p1 p2 p3 p4 r1 : Addr × Obj} {tl : List (Addr × Obj)} (N : News h₀ L h (a :: p1 :: p2 :: p3 :: p4 :: q :: r1 :: tl)) : News h₀ L h (a :: q :: tl) := fun p hp => by
  rcases List.mem_cons.mp hp with rfl | hp
  · exact N _ (.head _)
  rcases List.mem_cons.mp hp with rfl | hp
  · exact N _ (.tail _ (.tail _ (.tail _ (.tail _ (.tail _ (.head _))))))
  · exact N _ (.tail _ (.tail _ (.tail _ (.tail _ (.tail _ (.tail _ (.tail _ hp)))))))
end Mine

end

section
open PySem PySem.W PyProof.Rows PySem.Calls
namespace Mine
/-- behind a test that changes nothing -/
noncomputable def FiltP (h₀ : Heap) (L : Addr) (m : Str → Option Value) (s : Shared) (led : List (Addr × Obj)) (b : Bool) (ok : Bool) (s' : Shared) : Prop :=
  ok = b ∧ ∃ h' tk', s' = { s with heap := h', toks := tk' } ∧ Fr h₀ L h' m ∧ News h₀ L h' led
section
variable {w : World} {A : Around} {E : Value → Shared → Prop} {s : Shared} {h₀ : Heap} {L : Addr} {m : Str → Option Value} {env : Env}
theorem filt_rest {ct : PySem.Expr} {x : Str} {px : Pos} {scope : Scope} {cl : List (Str × Addr)} {news : List (Addr × Obj)} {ax : Addr} {its : Array Value} {us : List Str} {Fin : List Value → List (Addr × Obj) → Prop} (p : Str → Bool)
    (hkind : scope.kind = .function) (hx : scope.names.lookup x = some .local) (hd : (x == ("__debug__" : Str)) = false)
    (hits : StrsAre its.toList us) (hS : LCg.SrcAt h₀ ax its news)
    (turn : ∀ u t I oI C oC D m₂ ys h tk (E' : Value → Shared → Prop), LCg.NsObj oC m₂ → m₂ x = some (.str u t) → Fr h₀ L h m → News h₀ L h ((I, oI) :: (C, oC) :: (D, LCg.lst ys) :: news) →
      wpAny (model PR w) A (isTrue ct (compEnvC scope cl C env) (eval ct (compEnvC scope cl C env))) (FiltP h₀ L m { s with heap := h, toks := tk } ((I, oI) :: (C, oC) :: (D, LCg.lst ys) :: news) (p u)) E' { s with heap := h, toks := tk })
    (fin : ∀ ys, StrsAre ys (us.filter p) → Fin ys news) :
    LCt.CompRestT PR w A h₀ L m env ct (.Name x px) x scope cl s (LCg.SrcAt h₀ ax its) (fun i v => its[i]? = some v) Fin its.size 0 [] news := by
  have hsz : its.size = us.length := by rw [← Array.length_toList, strs_length hits]
  have key : ∀ (j i : Nat) (ys : List Value), i + j = its.size → StrsAre ys ((us.take i).filter p) → LCt.CompRestT PR w A h₀ L m env ct (.Name x px) x scope cl s (LCg.SrcAt h₀ ax its) (fun i v => its[i]? = some v) Fin j i ys news := by
    intro j
    induction j with
    | zero =>
      intro i ys hi hy
      rw [List.take_of_length_le (by omega)] at hy
      exact LCt.CompRestT.zero (fin ys hy)
    | succ j ih =>
      intro i ys hi hy
      refine LCt.CompRestT.succ ?_
      intro v I oI C oC D m₂ h tk E' hv hC hxm F N off ne
      obtain ⟨u, t, hu, rfl⟩ := strs_get hits (i := i) (v := v) (by simpa using hv)
      refine wpAny_mono (turn u t I oI C oC D m₂ ys h tk E' hC hxm F N) (fun ok s' hq => ?_) fun _ _ e => e
      obtain ⟨rfl, h', tk', rfl, F', N'⟩ := hq
      have hys : ∀ b, p u = b → (us.take (i + 1)).filter p = (us.take i).filter p ++ (if b then [u] else []) := fun b hb => by
        rw [List.take_add_one, hu, List.filter_append]
        congr 1
        rw [Option.toList]
        cases b with
        | true => rw [List.filter_cons_of_pos hb]; rfl
        | false => rw [List.filter_cons_of_neg (by rw [hb]; exact Bool.false_ne_true)]; rfl
      cases hb : p u with
      | true =>
        rw [if_pos rfl]
        refine wpAny_Name (wpAny_loadName_local (by show scope.kind = .function; exact hkind) (lookup_relabel_local hx) (hC.ns (N' (C, oC) (.tail _ (.head _))).1) hxm ?_) hd
        refine ⟨h', tk', news, rfl, F', N', off, hS, ih (i + 1) _ (by omega) ?_⟩
        rw [hys true hb]
        exact strs_app hy (.cons _ _ .nil)
      | false =>
        rw [if_neg Bool.false_ne_true]
        refine ⟨h', tk', news, rfl, F', N', off, hS, ih (i + 1) _ (by omega) ?_⟩
        rw [hys false hb]
        simpa using hy
  exact key its.size 0 [] (by omega) (by simp only [List.take_zero, List.filter_nil]; exact .nil)
end
theorem contains_S (l : List (List Nat)) (r : List Nat) : (l.map S).any (· == S r) = l.contains r := any_S l r
theorem filter_S (k l : List (List Nat)) : (k.map S).filter (fun u => (l.map S).any (· == u)) = (k.filter (l.contains ·)).map S := by
  induction k with
  | nil => rfl
  | cons r k ih =>
    have h := any_S l r
    rw [List.map_cons]
    cases q : l.contains r with
    | true => rw [List.filter_cons_of_pos (by rw [h, q]), List.filter_cons_of_pos (by rw [q]), List.map_cons, ih]
    | false => rw [List.filter_cons_of_neg (by rw [h, q]; decide), List.filter_cons_of_neg (by rw [q]; decide), ih]
theorem strs_map_length {vs : List Value} {l : List (List Nat)} (h : StrsAre vs (l.map S)) : vs.length = l.length := by rw [strs_length h, List.length_map]
end Mine

end

section
open PySem PySem.W PyProof.Rows PySem.Calls PyProof.V PySem.Spec PySem.SeqAt
namespace Mine
theorem rising_all (l : List Str) : ∀ p : Str, risingS p l = true → (∀ x ∈ l, p.cps.toList ≤ x.cps.toList) ∧ l.Pairwise (fun a b => a.cps.toList ≤ b.cps.toList) := by
  induction l with
  | nil => intro p _; exact ⟨fun _ h => (nomatch h), .nil⟩
  | cons x r ih =>
    intro p h
    have h' : (!ltCps x.cps.toList p.cps.toList && risingS x r) = true := h
    rw [Bool.and_eq_true, Bool.not_eq_true', ltCps_eq, decide_eq_false_iff_not] at h'
    obtain ⟨i1, i2⟩ := ih x h'.2
    have hpx : p.cps.toList ≤ x.cps.toList := h'.1
    refine ⟨fun y hy => ?_, .cons i1 i2⟩
    rcases List.mem_cons.mp hy with rfl | hy
    · exact hpx
    · exact List.le_trans hpx (i1 y hy)
theorem sorted_pair {l : List Str} (h : sortedS l = true) : l.Pairwise (fun a b => a.cps.toList ≤ b.cps.toList) := by
  cases l with
  | nil => exact .nil
  | cons x r => exact .cons (rising_all r x h).1 (rising_all r x h).2
theorem sorted_uniq {a b : List Str} (ha : sortedS a = true) (hb : sortedS b = true) (p : a.Perm b) : a = b := by
  refine List.Perm.eq_of_pairwise (fun x y _ _ h1 h2 => ?_) (sorted_pair ha) (sorted_pair hb) p
  have e := List.le_antisymm h1 h2
  rw [S_of x, S_of y, e]
theorem eq_strs {w : World} {A : Around} {E : Value → Shared → Prop} {s : Shared} {a b : Addr} {va vb : List Value} {us : List Str} {n k : Nat} {Q : Value → Shared → Prop} (ha : s.heap.get? a = some (listOf va.toArray n)) (hb : s.heap.get? b = some (listOf vb.toArray k))
    (sa : StrsAre va us) (sb : StrsAre vb us) (ok : Oks us) (hu : A.units + 64 < cLine) (h : Q (.bool true) s) : wpAny (model PR w) A (compareOp .Eq (.ref a) (.ref b)) Q E s := by
  have hs : shaped (.list (us.map PyData.str)) = true := by
    have h1 := depthAll_strs us
    show (PyData.canLay0 _ && decide (PyData.depth _ ≤ 64)) = true
    rw [Bool.and_eq_true]
    refine ⟨by simp only [PyData.canLay0, canLayAll0_strs us ok], decide_eq_true ?_⟩
    simp only [PyData.depth]
    omega
  refine compareEq_shaped (reads_strs ha sa) (reads_strs hb sb) hs hs hu ?_
  rw [eqv_refl _ (canLay_of_shaped hs)]
  exact h
end Mine
namespace Mine
theorem perm_uniq {k l m : List (List Nat)} {x y : List Str} (hx : x.Perm ((k.filter (l.contains ·)).map S)) (hy : y.Perm (m.map S)) (p : (k.filter (l.contains ·)).Perm m) (sx : sortedS x = true) (sy : sortedS y = true) : x = y :=
  sorted_uniq sx sy (hx.trans ((p.map S).trans hy.symm))
theorem oks_perm {a b : List Str} (p : a.Perm b) (h : Oks b) : Oks a := fun x hx => h x (p.mem_iff.mp hx)
theorem news_tab {h₀ h : Heap} {L : Addr} {q d l r t c : Addr × Obj} {tl : List (Addr × Obj)} (N : News h₀ L h (q :: d :: l :: r :: t :: c :: tl)) : News h₀ L h (t :: (tl ++ [q])) := fun p hp => by
  rcases List.mem_cons.mp hp with rfl | hp
  · exact N _ (.tail _ (.tail _ (.tail _ (.tail _ (.head _)))))
  rcases List.mem_append.mp hp with hp | hp
  · exact N _ (.tail _ (.tail _ (.tail _ (.tail _ (.tail _ (.tail _ hp))))))
  · rw [List.mem_singleton.mp hp]; exact N _ (.head _)
end Mine

end

section
open PySem PySem.W PyProof.Rows PySem.Calls PySem.Spec
namespace Mine
theorem post_true (args : List WData) : PySem.Challenge.rw_rs0061_01.row.claim.post args (.bool true) args = true := by
  refine postW_of (r := _) (X := true) (by first | rfl | decide | simp) ?_ rfl
  first | rfl | (with_unfolding_all rfl) | simp [WTm.value]
end Mine

end

section
open PySem PySem.W PyProof.Rows PySem.Calls
namespace Mine
theorem reset_T8 : True := by w_top off; k_with_none; trivial
theorem lines_T8_0 : True := by
  k_with "execs cons" => ((refine' aft_flat ?e ?_; (case e => first | (dsimp only; done) | (dsimp only; exact rfl) | exact rfl); intro _ _ _))
  k_with "execs nil" => (refine wpAny_execs_nil ?_)
  k_with "exec If" => (refine wpAny_If ?_)
  k_with "Post next" => (first | refine aft_end (by with_reducible assumption) ?_ | refine aft_next (by with_reducible assumption) ?_)
  k_with "Post ret" => (refine aft_ret (by with_reducible assumption) ?_)
  k_with "Post brk" => (refine aft_brk (by with_reducible assumption) ?_)
  k_with "Post cont" => (refine aft_cont (by with_reducible assumption) ?_)
  k_with "GenPost ret" => (refine genPost_ret ?_)
  k_with "call" => (((with_reducible show wpAny _ _ (call (Value.type _) _) _ _ _); refine sub_A (by with_reducible assumption) ?_))
  trivial
theorem held_left {M : Model} {A : Around} {elt x : PySem.Expr} {ifs : List PySem.Expr} {a : Int} {p p2 : Pos} {sc : Scope} {env : Env} {Q E : Value → Shared → Prop} {s : Shared} (h : Held (wpAny M A (eval (.ListComp elt [⟨x, .Name (Str.ofString "left") p, ifs, a⟩] sc p2) env) Q E s)) : wpAny M A (eval (.ListComp elt [⟨x, .Name (Str.ofString "left") p, ifs, a⟩] sc p2) env) Q E s := h
theorem held_eq {M : Model} {A : Around} {op : CmpOp} {a b : Addr} {Q E : Value → Shared → Prop} {s : Shared} (h : Held (wpAny M A (compareOp op (.ref (a + 1)) (.ref (b + 1))) Q E s)) : wpAny M A (compareOp op (.ref (a + 1)) (.ref (b + 1))) Q E s := h
theorem lines_T8_1 : True := by
  k_with "call ref" => (refine held ?_)
  k_with "call builtin:sum cons nil" => ((k_here; (rename IntsAre _ _ => hI7); (with_unfolding_all refine' sum_pick hI7 ?k1 ?k2 ?k0 ?k3 ?_; (case k1 => k_asm); (case k2 => k_asm); (case k0 => with_unfolding_all rfl); (case k3 => k_mem)); intro _ _ _ _ _))
  k_with "subscriptTail" => (with_reducible refine held_sub ?_)
  trivial
local macro_rules | `(tactic| k_ne) => `(tactic| with_reducible assumption)
theorem lines_T8_2 : True := by
  k_with "call builtin:str.join" => (refine held ?_)
  k_with "exec For Name List cons nil" => (refine held ?_)
  k_with "pyIter ref" => (refine held ?_)
  k_with "eval ListComp" => (with_reducible refine held_left ?_)
  k_with "compareOp In str ref" => (refine held ?_)
  k_with "call builtin:sorted" => (refine held ?_)
  k_with "compareOp Eq ref ref" => (with_reducible refine held_eq ?_)
  trivial
theorem CtP.mono {d : Nat} {w : World} {f : Addr} {vs : List Value} {P : Heap → Prop} {R R' : Value → List (Addr × Obj) → Prop} (C : CtP d w f vs P R) (h : ∀ v new, R v new → R' v new) : CtP d w f vs P R' :=
  fun A base fr s Q E hP G B Rm hQ => C A base fr s Q E hP G B Rm fun v new h' tk' g' r => hQ v new h' tk' g' (h _ _ r)
/-- one of the fourteen rows -/
inductive RowR : Value → List (Addr × Obj) → Prop
  | mk (a : List Nat) (t : Tok) (h : a ∈ rows14) : RowR (.str (S a) t) []
theorem RowR.of {ns : List Int} (h : ns.length = 6) (v : Value) (new : List (Addr × Obj)) : ((∃ t, v = .str (S (rowL ns)) t) ∧ new = []) → RowR v new := by
  rintro ⟨⟨t, rfl⟩, rfl⟩; exact ⟨_, t, rowL_mem h⟩
noncomputable abbrev lawEnv (L fa : Addr) (cd : Value) : Env := envOfC (Str.ofString "law") (fnScope 17) L fa cd
theorem law_rest {w : World} {h₀ h : Heap} {L fa lc : Addr} {cd : Value} {mean : ExcName → Option Value} {mg mb : Str → Option Value} (KX : (hd.heap_39 w.params).In h₀) (T : Top hd.view_39 (looseW hd.view_39 []) mean mg mb h₀) (K0 : Below callerA h₀ [] h₀)
    {vs : List Value} {ns : List Int} {nc : Nat} (hI8 : IntsAre vs ns) (h12 : ns.length = 12) {d : List Nat} {td : Tok} (hdr : d ∈ dressL) {mF : Str → Option Value} {oM oR : Obj} (dR : oR.data = .cell none) (dM : oM.data = .cell none)
    (F : Fr h₀ L h (fun y => if y = Str.ofString "dress" then some (.str (S d) td) else if y = Str.ofString "cells" then some (.ref lc) else mF y)) (N : News h₀ L h [(lc, listOf vs.toArray nc), (L + 1 + 1 + 1 + 1, oR), (L + 1 + 1 + 1, oM)])
    {qk : Flow → Shared → Prop} {ek : Value → Shared → Prop} {g : Array GenState} {dr : Drawn} {tk : Tok} {os : OsState} (hg : AllBare g) (hq : ∀ h' g' tk', (∀ b o, h₀.get? b = some o → h'.get? b = some o) → AllBare g' → qk (.ret (.bool true)) ⟨h', g', dr, tk', os⟩) :
    wpAny (model PR w) (callerA.deeper (lawEnv L fa cd)) (execs ((fnBody 17).drop 3) (lawEnv L fa cd)) qk ek ⟨h, g, dr, tk, os⟩ := by
  have G : GBase w h₀ := ⟨KX, _, _, _, T⟩
  unfold fnBody
  dsimp only [stm, PySem.Challenge.pw_rs0061_01, List.drop]
  k_steps
  rename Fr _ _ _ _ => F
  rename News _ _ _ _ => N
  refine unheld (use_ctPE (d := 2) ((row_ct _ _ _ _ (ints_pick hI8 (some 0) none (some 2)) (by rw [(pick_len h12).1]; decide)).mono (RowR.of (pick_len h12).1)) (News.isList N (.head _)) K0 G F N (by intro h; cases h) rfl rfl (by decide +kernel) (by decide +kernel) ?_)
  rintro v new h₂ tk₂ g₂ ⟨a, t₂, ha⟩ F₂ N₂ - hb₂
  rw [List.append_nil] at N₂
  replace N₂ := news_tail N₂
  clear F N
  dsimp only
  k_steps
  rename Fr _ _ _ _ => F
  rename News _ _ _ _ => N
  refine unheld (use_ctPE (d := 2) ((row_ct _ _ _ _ (ints_pick hI8 (some 1) none (some 2)) (by rw [(pick_len h12).2]; decide)).mono (RowR.of (pick_len h12).2)) (News.isList N (.head _)) K0 G F N (by intro h; cases h) rfl rfl (by decide +kernel) (by decide +kernel) ?_)
  rintro v new h₃ tk₃ g₃ ⟨b, t₃, hb⟩ F₃ N₃ - hb₃
  rw [List.append_nil] at N₃
  replace N₃ := news_tail (news_tail N₃)
  clear F N
  have A := rowOk ha hdr
  have B := rowOk hb hdr
  have hd' := dress_len hdr
  dsimp only
  k_steps
  rename Fr _ _ _ _ => F
  rename News _ _ _ _ => N
  refine unheld (use_ctE (d := 8) (meet_ct _ a b _ _ _ _ (by rw [A.len]; decide) (by rw [B.len]; decide) hd' A.oks B.oks _ _ rfl rfl A.bnd.1 B.bnd.1 A.bnd.2 B.bnd.2) K0 G F N (by intro h; cases h) rfl rfl (by decide +kernel) (by decide +kernel) ?_)
  rintro v new h₄ tk₄ g₄ ⟨rm, im, nm, hms⟩ F₄ N₄ off₄ hb₄
  obtain ⟨ms, mid, M⟩ := plain ha hb hdr
  rw [← M.em] at hms
  replace N₄ := news_swap N₄
  simp only [List.cons_append, List.nil_append] at N₄
  clear F N
  have hm4 : ms.length = 4 := by rw [← M.sp]; exact M.row.bnd.1
  dsimp only
  simp only [OwnOff, List.map_cons, List.map_nil, List.forall_mem_cons, List.forall_mem_nil, and_true, List.not_mem_nil, false_implies, implies_true] at off₄
  obtain ⟨-, o5⟩ := off₄
  have hMb := M.row.bnd.2
  rw [M.sp] at hMb
  obtain ⟨m0, m1, m2, m3, rfl⟩ := len4 hm4
  obtain ⟨u0, u1, u2, u3, rfl⟩ := ints4 hms
  k_steps
  · rename decide _ = true => hq
    exact absurd (of_decide_eq_true hq) (by intro h; cases h)
  rename Fr _ _ _ _ => F
  rename News _ _ _ _ => N
  refine comp_cell F 4 (by decide) (by with_unfolding_all rfl) (by rfl) (by decide) (by rfl) (by intro a; rfl) (by intro h; rfl) (by rfl) ?_
  k_steps
  rename Fr _ _ _ _ => F
  rename News _ _ _ _ => N
  rename IsRange _ _ _ _ _ _ _ _ => hr
  refine ⟨_, _, _, _, _, fun i y => ∃ t, y = .str (S (40 :: List.replicate (cntEq [m0, m1, m2, m3] i) 41)) t, rfl, F, N, hr, ?_, ?_⟩
  · intro i ti T' oT I oI C oC D ys' h tk E' hi hoT F N
    k_steps
    rw [count_is]
    have hc4 := cnt_le [m0, m1, m2, m3] i
    generalize hcn : cntEq [m0, m1, m2, m3] i = c at hc4 ⊢
    revert c
    refine id ?_
    intro c hc4 hcn
    k_steps
    rename Fr _ _ _ _ => F
    rename News _ _ _ _ => N
    refine ⟨_, _, rfl, F, N, ?_⟩
    rw [mul_close]
    exact ⟨_, rfl⟩
  · intro D h tk ys' F N lD hys hP
    have hjs := join_mid _ hys hP
    clear hP
    k_steps
    refine unheld (join_listC (News.isList N (.head _)) hjs (by decide) (join_fits (n := 8) (k := 8) (fun r hr => ?_) (by rw [List.length_map]; decide) (by decide) (by decide)) fun t' k => ?_)
    · obtain ⟨i, _, rfl⟩ := List.mem_map.mp hr
      have := cnt_le [m0, m1, m2, m3] i
      rw [List.length_cons, List.length_replicate]; omega
    rw [join_empty, show (List.map (fun i => 40 :: List.replicate (cntEq [m0, m1, m2, m3] i) 41) (List.range 4)).flatten = mid from M.ed.symm]
    have N' := news_tail N
    clear N hjs hys
    have hml : (S mid).length = 8 := by rw [S_len]; exact M.row.len
    have hdl : (S _).length < 100 := (S_len _).symm ▸ hd'
    k_steps
    refine unheld (wpAny_For ?_)
    k_steps
    rename Fr _ _ _ _ => F
    rename News _ _ _ _ => N
    refine unheld (list_fixE (mine := []) (.head _) (by simp) rfl (textJ _) rfl rfl F N (textJ_zero _) ?_ ?_)
    · rintro i v m₁ mine₁ own h gens tk hv ⟨rfl, v', rfl⟩ - - hbare F₁ N₁
      obtain ⟨x, tx, rfl, hx, hx1⟩ := text_items M hv
      replace F₁ := Fr.again F₁
      have hxl : (S x).length < 100 := (S_len _).symm ▸ hx1
      clear F N
      k_steps
      rename Fr _ _ _ _ => F
      rename News _ _ _ _ => N
      rw [text_is]
      refine unheld (use_ctE (d := 5) (chk_ct _ _ _ (textL_len hd' hx1)) K0 G F N (by intro h; cases h) rfl rfl (by decide +kernel) (by decide +kernel) ?_)
      rintro v new h₅ tk₅ g₅ ⟨rfl, rfl⟩ F₅ N₅ - hb₅
      rw [hx]
      rw [List.append_nil] at N₅
      clear F N
      k_steps
      · rename (_ != _) = true => hq
        rw [S_beq, bne_self_eq_false] at hq
        cases hq
      · exact turn_next [] F₅ N₅ rfl ⟨rfl, _, rfl⟩ fun hb => hb₅ (hbare hb)
    · rintro m₁ mine₁ h gens tk ⟨rfl, v', rfl⟩ - hbare F₁ N₁
      clear F N
      rw [List.nil_append] at N₁
      dsimp only
      k_steps
      rename Fr _ _ _ _ => F
      rename News _ _ _ _ => N
      refine unheld (use_ctE (d := 7) (spans_ct _ mid _ _ _ (by rw [M.row.len]; decide) hd') K0 G F N (by intro h; cases h) rfl rfl (by decide +kernel) (by decide +kernel) ?_)
      rintro v new h₅ tk₅ g₅ ⟨rs, ims, ns', hsp⟩ F₅ N₅ off₅ hb₅
      rw [M.sp] at hsp
      obtain ⟨w0, w1, w2, w3, rfl⟩ := ints4 hsp
      replace N₅ := news_swap N₅
      simp only [List.cons_append, List.nil_append] at N₅
      clear F N
      k_steps
      rename Fr _ _ _ _ => F
      rename News _ _ _ _ => N
      rename Obj.IsDictOf (PySem.strKind _ _) _ _ => hdict
      rename (_ == sysModules) = false => hlo
      rename (_ < _ ∧ _) => l1
      have hrest := hrest_of N (by
        iterate 5 (refine List.forall_mem_cons.mpr ⟨Nat.ne_of_lt l1.1, ?_⟩; replace l1 := l1.2)
        exact List.forall_mem_cons.mpr ⟨Nat.ne_of_lt l1, List.forall_mem_nil _⟩)
      refine unheld (use_low (tl := []) (c := 0) hd' A.low K0 G F N (by intro h; cases h) rfl (fun p hp => nomatch hp) hrest hlo hdict (fun p hp => nomatch hp) (Nat.le_refl _) (by decide) rfl (by decide +kernel) (by decide +kernel) ?_)
      intro h₆ tk₆ g₆ new₆ o₆ kvs₆ rL iL nL hmL hsL F₆ N₆ hdict₆ hT₆ off₆ hc₆ hb₆
      clear F N
      simp only [List.nil_append] at N₆ hT₆
      k_steps
      rename Fr _ _ _ _ => F
      rename News _ _ _ _ => N
      refine unheld (use_low (tl := new₆) (c := 30) hd' B.low K0 G F N (by intro h; cases h) rfl (fun p hp => off₆ p hp _ (.head _)) hrest hlo hdict₆ hT₆ hc₆ (by decide) rfl (by decide +kernel) (by decide +kernel) ?_)
      intro h₇ tk₇ g₇ new₇ o₇ kvs₇ rR iR nR hmR hsR F₇ N₇ hdict₇ hT₇ off₇ hc₇ hb₇
      clear F N
      obtain ⟨tl, etl, N₈, off₈⟩ := tail_of N₇ off₆ off₇
      have hmL' : (rL, listOf iL nL) ∈ tl := etl ▸ List.mem_append.mpr (.inl hmL)
      have hmR' : (rR, listOf iR nR) ∈ tl := etl ▸ List.mem_append.mpr (.inr hmR)
      rw [← etl] at hT₇
      clear N₇ off₆ off₇ etl hmL hmR hT₆ hdict₆
      simp only [List.cons_append, List.nil_append] at N₈
      dsimp only [List.map] at off₈
      have N₉ := news_r2 N₈
      have htl : ∀ p ∈ tl, p.1 ≠ _ := fun p hp => off₈ p hp _ (.head _)
      refine' storeX_C F₇ N₉ ?c (.tail ?h1 (.head ?h2)) ?hd ?_ ?q1 ?q2
      case q1 => rfl
      case q2 => rfl
      case c => rfl
      case hd => assumption
      case h1 => exact (hrest (_, _) (by k_mem)).symm
      case h2 => exact OwnOff.ne off₈ (by k_mem)
      intro h₉ o₉ F₉ N₉ d₉
      clear N₈ off₈ F₇ hrest
      have N₁₀ : News _ _ _ ((rL, listOf iL nL) :: (rR, listOf iR nR) :: _) := fun p hp => (List.mem_cons.mp hp).elim (fun e => e ▸ N₉ _ (.tail _ (.tail _ hmL'))) fun hp => (List.mem_cons.mp hp).elim (fun e => e ▸ N₉ _ (.tail _ (.tail _ hmR'))) (N₉ p)
      clear N₉
      have few₁ : iL.size < 20 := by rw [← Array.length_toList, strs_map_length hsL]; exact A.few
      k_steps
      rename Fr _ _ _ _ => F
      rename News _ _ _ _ => N
      refine unheld (LCt.ListComp_T F (by with_unfolding_all rfl) (by decide) (by rfl) (by decide) (by rfl) ?_)
      k_steps
      refine LCt.CompSrcT.ledger rfl F N (.head _) (by rw [sizeLine_eq]; omega) fun g => filt_rest (fun u => ((lowerL d b).map S).any (· == u)) (by rfl) (by rfl) (by decide) hsL (.inr ⟨_, .head _, rfl, _, rfl⟩) ?_ ?_
      · intro u t I oI C oC D m₂ ys h tk E' hC hx F N
        k_steps
        refine unheld (in_list_strs (vs := iR.toList) ⟨_, (N _ (.tail _ (.tail _ (.tail _ (.tail _ (.head _)))))).1, rfl, nR, rfl⟩ hsR ?_)
        k_steps
        exact ⟨rfl, _, _, rfl, F, N⟩
      · intro ys hys D h tk F N off
        rw [filter_S] at hys
        have hyl : ys.length < 64 := by
          rw [strs_map_length hys]
          have := A.few
          have := List.length_filter_le (fun x => (lowerL d b).contains x) (lowerL d a)
          omega
        k_steps
        refine unheld (sorted_N_str F N (News.isList N (.head _)) hys hyl fun h₁₁ vs₁ ss₁ e₁ F₁₁ N₁₁ p1 p2 p3 => ?_)
        have hne : h.objs.size + 1 ≠ _ := Nat.ne_of_gt (Nat.lt_succ_of_lt (Heap.lt_size (N _ (.tail _ (.tail _ (.tail _ (.head _))))).1))
        have N₁₂ := news_tab N₁₁
        clear F N N₁₁ off hmL' hmR' hsL hsR hys
        k_steps
        refine unheld (use_low (tl := tl) (c := 60) hd' M.row.low K0 G F₁₁ N₁₂ (by intro h; cases h) rfl htl (fun p hp => by rw [List.mem_singleton.mp hp]; exact hne) hlo hdict₇ hT₇ hc₇ (by decide) rfl (by decide +kernel) (by decide +kernel) ?_)
        intro h₁₂ tk₁₂ g₁₂ new₃ o₁₂ kvs₁₂ rM iM nM hmM hsM F₁₂ N₁₃ hdict₁₂ hT₁₂ off₁₂ hc₁₂ hb₁₂
        clear F₁₁ N₁₂
        have hml' : iM.toList.length < 64 := by
          rw [strs_map_length hsM]
          have := M.row.few
          omega
        k_steps
        refine unheld (sorted_N_str (vs := iM.toList) F₁₂ N₁₃ ⟨_, (N₁₃ _ (.tail _ (List.mem_append.mpr (.inl (List.mem_append.mpr (.inr hmM)))))).1, rfl, nM, rfl⟩ hsM hml' fun h₁₃ vs₂ ss₂ e₂ F₁₃ N₁₄ q1 q2 q3 => ?_)
        clear F₁₂ N₁₃
        have ess := perm_uniq p2 q2 M.perm p3 q3
        subst ess
        k_steps
        refine unheld (eq_strs (N₁₄ _ (.tail _ (.tail _ (List.mem_append.mpr (.inr (.head _)))))).1 (N₁₄ _ (.head _)).1 p1 q1 (oks_perm q2 M.row.okl) (by show 4 + 3 + 64 < cLine; decide +kernel) ?_)
        k_steps
        have hbb : AllBare g₁₂ := hb₁₂ (hb₇ (hb₆ (hb₅ (hbare (hb₄ (hb₃ (hb₂ hg)))))))
        exact hq _ _ _ F₁₃.keep hbb
theorem lines_T8_3 : True := by
  k_with "subscriptTail Name Name ref int" => (((with_unfolding_all refine' item_list_ints ?k1 ?k2 ?k3 ?k4 ?k5 ?_; (case k1 => is_list); (case k2 => l_ints); (case k3 => (repeat (rename _ ∧ _ => hx; clear hx)); l_idx); (case k4 => (repeat (rename _ ∧ _ => hx; clear hx)); l_idx); (case k5 => (repeat (rename _ ∧ _ => hx; clear hx)); l_idx); k_whole); intro _))
  k_with "execs cons Assign cons" => (with_reducible refine held_one ?_)
  trivial
theorem law_top : PySem.Challenge.rw_rs0061_01.Holds := hd (by
  k_fill
  intro w s₀ s₁ mg mb GG Y fa o pm cd doc dV kV ho hdo hcd hD hmg hg args vals as hpre hlay hrd hwl hlo
  have KX := kIn_of Y
  have XX := (Ground.X GG).1
  have VV := (Ground.X GG).2
  try w_nolog (first | (have GL := glob_more (Ground.glob GG (by first | k_qdec | decide +kernel) (by first | k_qdec | decide +kernel)) VV) | (have GL := glob_more (Ground.glob GG (by decide +kernel)) VV))
  refine Ground.open GG ?_
  intro T BB DD TE TW
  try (refine guard_noD DD (by decide +kernel) ?_; clear DD)
  obtain ⟨_, _, MM⟩ := bmod_of_top T
  have TA := at_of_top T
  clear hmg
  wrow_args hpre hlay hrd hwl hlo
  first | refine callC_kw (enter_call ?_) | refine enter_call ?_ | refine callC_kw (enter_callW ?_) | refine enter_callW ?_ | w_how
  w_top on
  have K0 := below_caller (Top.heap T)
  w_call any ho hdo hcd hD T FF
  clear hdo TA
  k_drop
  all_goals try k_fold
  k_steps
  rename News _ _ _ _ => Nd
  refine unheld (dress_item Nd (List.Mem.head _) fun d t hdr => ?_)
  k_steps
  rename IntsAre _ (List.map _ _) => hI8
  rename Fr _ _ _ _ => F
  rename News _ _ _ _ => N
  rename _ ∈ dressL => hdr
  refine unheld (law_rest KX T K0 hI8 (by rw [List.length_map]; rfl) hdr (by assumption) (by assumption) F (news_p1 N) (.of_eq hg) fun h' g' tk' hk hb => ?_)
  refine ⟨.inl ⟨.bool true, .bool true, [], rfl, ?_, .bool true, ?_, ?_⟩, .of_keep hk, rfl, hb⟩
  · intro cls
    rfl
  · exact post_true _
  · intro _
    exact ⟨.nil, fun _ h => nomatch h⟩)
end Mine

end

theorem PySem.Challenge.cw_rs0061_01_holds : PySem.Challenge.rw_rs0061_01.Holds :=
  Mine.law_top
