import PyProof.Rows.All
import Wide.All
import OpenK.AllK
import Wide.FinOn
import PySem.Challenge.RW_tv0009_01
set_option Elab.async false
section
open PySem PySem.W PyProof.Rows
set_option maxRecDepth 100000
set_option maxHeartbeats 8000000
namespace Mine
open_top hd for PySem.Challenge.rw_tv0009_01
end Mine
end
section
theorem Mine.walk_reset_B : True := by
  w_top off
  trivial
open PySem PySem.W PyProof.Rows
set_option maxRecDepth 100000
set_option maxHeartbeats 8000000
namespace Mine
/-- the written part of the state -/
noncomputable abbrev Kf (w : World) : Frag := hd.heap_39 w.params

/-- a call of a plain def, its body from a fresh frame over the whole heap -/
theorem enter {prog : Program} {w : World} {A : Around} {s : Shared} {K : Frag} {R : Result → Shared → Prop} {name qual : Str} {params : Arguments} {body : List Stmt} {scope : Scope} {dV kV doc pm cdv ct oc : Value} {an od : Option Addr} {osl : Array (Option Value)} {f : Addr} {args : Args} {binds : List (Str × Value)}
    (X : K.In s.heap) (hlim : s.heap.NoLimit)
    (ho : K.lookup f = some ⟨oc, od, .func (fnOf name qual params body scope dV kV doc pm an cdv ct), osl⟩) (hcd : codeIn K cdv qual = true) (hroom : A.depth < recursionLimit)
    (hbind : BindsTo s (fnOf name qual params body scope dV kV doc pm an cdv ct) args binds) (hloc : ∀ y ∈ binds, scope.names.lookup y.1 = some .local)
    (h : ∀ h₁ L, L = s.heap.objs.size → Fr s.heap L h₁ (fun y => binds.reverse.lookup y) →
      wpAny (model prog w) (A.deeper (envOf qual scope L f cdv)) (execs body (envOf qual scope L f cdv))
        (fun fl s' => R (.ok (.ret (match fl with | .ret v => v | _ => .none))) s')
        (fun _ _ => False)
        { s with heap := h₁, toks := s.toks + binds.length })
    (hco : scope.isCoroutine = false) (hgen : scope.isGenerator = false) (hk : scope.kind = .function)
    (hcell : ∀ x ∈ scope.names, x.2 ≠ .cell) : codeAny (model prog w) A (.call (.ref f) args) R s := by
  refine codeAny_call_function hroom (X _ _ ho) rfl hco hgen rfl (codeRec_of X hcd) ?_
  refine hbind _ _ _ _ (wpAny_newFunctionEnv hcell hloc (fun h₁ hns hsb => ⟨hlim.fresh _ hsb, ?_⟩) hk)
  refine codeAny_func (wpAny_mono (h h₁ _ rfl ⟨hns, fun b o e => hsb.extBut b o (Nat.ne_of_lt (Heap.lt_size e)) (Heap.get?_push_of_some _ e), Nat.le_refl _⟩) (fun _ _ x => x) fun _ _ x => x.elim)
end Mine
end
section
theorem Mine.walk_reset_G1 : True := by
  w_top off
  trivial
open PySem PySem.W PyProof.Rows
set_option maxRecDepth 100000
set_option maxHeartbeats 2000000
namespace Mine
section
variable {prog : Program} {w : World} {B : Around} {R : GenEnd} {Y : Protocol} {n : Nat} {s₀ : Shared} {fs : List Frame} {s : Shared} {env : Env}
  {K : Flow → Sem PySem.Fin} {H : Value → Sem PySem.Fin} {gd : Bool → Bool} {lv : List Value → List Value} {c : Code}

/-- what a turn's body hands on to -/
abbrev forK (target : Expr) (it : Value) (body orelse : List Stmt) (env : Env) : Flow → Sem PySem.Fin := fun f => match f with
  | .next | .cont => .pure (.again (.forLoop target it body orelse env))
  | .brk => .pure (.done .next)
  | .ret v => .pure (.done (.ret v))
abbrev forH (env : Env) : Value → Sem PySem.Fin := fun e => (do noteFrame e env; theTreesLotGoes e : Sem Unit).wrap (fun _ => .raise e) .raise id id

theorem seg_forLoop {target : Expr} {it : Value} {body orelse : List Stmt}
    (h : wpAny (model prog w) (B.over (.forLoop target it body orelse env) fs) (pyNext it) (fun r s₁ => match r with
      | none => Seg (model prog w) B R Y n s₀ (.block orelse env) ((model prog w).den (.block orelse env)) fs s₁
      | some v => wpAny (model prog w) (B.over (.forLoop target it body orelse env) fs) (letOwnedTupleGo target it v) (fun _ s₂ =>
          wpAny (model prog w) (B.over (.forLoop target it body orelse env) fs) (assign target env v) (fun _ s₃ =>
            Seg (model prog w) B R Y n s₀ (.forLoop target it body orelse env) ((execs body env).wrap (forK target it body orelse env) (forH env) id id) fs s₃)
          (fun _ _ => False) s₂) (fun _ _ => False) s₁) (fun _ _ => False) s) :
    Seg (model prog w) B R Y n s₀ (.forLoop target it body orelse env) ((model prog w).den (.forLoop target it body orelse env)) fs s := by
  show Seg _ B R Y n s₀ _ ((forTurn target it body orelse env).onRaise (fun x => do noteFrame x env; theTreesLotGoes x)) fs s
  unfold forTurn
  rw [Sem.onRaise_eq_wrap, Sem.bind_eq_wrap', Sem.wrap_wrap]
  refine seg_wrap (wpAny_standAt ?_)
  rw [Sem.bind_eq_wrap', Sem.wrap_wrap]
  refine seg_wrap (wpAny_onRaise (wpAny_mono h (fun r s₁ hr => ?_) fun _ _ x => x.elim))
  cases r with
  | none => exact seg_again rfl hr
  | some v =>
    dsimp only at hr ⊢
    rw [Sem.bind_eq_wrap', Sem.wrap_wrap]
    refine seg_wrap (wpAny_mono hr (fun _ s₂ h₂ => ?_) fun _ _ x => x.elim)
    rw [Sem.bind_eq_wrap', Sem.wrap_wrap]
    refine seg_wrap (wpAny_mono h₂ (fun _ s₃ h₃ => ?_) fun _ _ x => x.elim)
    rw [Sem.bind_eq_wrap', Sem.wrap_wrap]
    rw [Sem.wrap_congr (execs body env) _ _ (K' := forK target it body orelse env) (H' := forH env) (fun f => by cases f <;> rfl)
      (fun e => by first | (show (Sem.raise e : Sem PySem.Fin).wrap _ _ _ _ = _; show (do noteFrame e env; theTreesLotGoes e : Sem Unit).bind (fun _ => .raise e) = _; rw [Sem.bind_eq_wrap]))]
    exact h₃

theorem seg_block_nil (h : Seg (model prog w) B R Y n s₀ (.block [] env) (.pure (.done .next)) fs s) :
    Seg (model prog w) B R Y n s₀ (.block [] env) ((model prog w).den (.block [] env)) fs s := h

theorem seg_If {test : Expr} {body orelse : List Stmt} {pos : Pos}
    (h : wpAny (model prog w) (B.over c fs) (isTrue test env (eval test env)) (fun b s₁ =>
      Seg (model prog w) B R Y n s₀ c ((execs (if b = true then body else orelse) env).wrap K H gd lv) fs s₁) (fun _ _ => False) s) :
    Seg (model prog w) B R Y n s₀ c ((exec (.If test body orelse pos) env).wrap K H gd lv) fs s := by
  rw [exec_If]
  rw [Sem.bind_eq_wrap', Sem.wrap_wrap]
  refine seg_wrap (wpAny_standAt ?_)
  rw [Sem.bind_eq_wrap', Sem.wrap_wrap]
  refine seg_wrap (wpAny_mono h (fun b s₁ hb => ?_) fun _ _ x => x.elim)
  cases b <;> exact hb

theorem seg_stmt {st : Stmt} (h : wpAny (model prog w) (B.over c fs) (exec st env) (fun f s₁ => Seg (model prog w) B R Y n s₀ c (K f) fs s₁) (fun _ _ => False) s) :
    Seg (model prog w) B R Y n s₀ c ((exec st env).wrap K H gd lv) fs s := seg_wrap (wpAny_mono h (fun _ _ x => x) fun _ _ x => x.elim)

theorem seg_For {target iter : Expr} {body orelse : List Stmt} {pos : Pos}
    (h : wpAny (model prog w) (B.over c fs) (eval iter env) (fun x s₁ => wpAny (model prog w) (B.over c fs) (pyIter x) (fun it s₂ =>
      ∀ p k, (∀ n s₀ f s₃, Seg (model prog w) B R Y n s₀ c (K f) fs s₃ → Seg (model prog w) B R Y n s₀ c (k (.ok f)) fs s₃) → 
        Seg (model prog w) B R Y n s₀ (.forLoop target it body orelse env) ((model prog w).den (.forLoop target it body orelse env)) (.ret k none (gd false) (lv []) c p [] :: fs) s₂) (fun _ _ => False) s₁) (fun _ _ => False) s)
    (hs : ∀ x, foldedSetIterable iter env x = pure x := by intro _; rfl) :
    Seg (model prog w) B R Y n s₀ c ((exec (.For target iter body orelse pos) env).wrap K H gd lv) fs s := by
  rw [exec_For]
  rw [Sem.bind_eq_wrap', Sem.wrap_wrap]
  refine seg_wrap (wpAny_standAt ?_)
  rw [Sem.bind_eq_wrap', Sem.wrap_wrap]
  refine seg_wrap (wpAny_mono h (fun x s₁ h₁ => ?_) fun _ _ x => x.elim)
  rw [hs x, Sem.bind_eq_wrap', Sem.wrap_wrap]
  refine seg_wrap (wpAny_pure ?_)
  rw [Sem.bind_eq_wrap', Sem.wrap_wrap]
  refine seg_wrap (wpAny_standAt ?_)
  rw [Sem.bind_eq_wrap', Sem.wrap_wrap]
  refine seg_wrap (wpAny_holding (wpAny_mono h₁ (fun it s₂ h₂ => ?_) fun _ _ x => x.elim))
  refine seg_call fun p => h₂ p _ fun n s₀ f s₃ h₃ => ?_
  exact h₃
end
end Mine
end
section
theorem Mine.walk_reset_G2 : True := by
  w_top off
  trivial
open PySem PySem.W PyProof.Rows
set_option maxRecDepth 100000
set_option maxHeartbeats 2000000
namespace Mine
abbrev keepBase (h₀ h : Heap) : Prop := ∀ b o, h₀.get? b = some o → h.get? b = some o
abbrev keepOn (fp : List Addr) (h h' : Heap) : Prop := ∀ b ∈ fp, ∀ o, h.get? b = some o → h'.get? b = some o
abbrev live (own : List Addr) (h : Heap) : Prop := ∀ b ∈ own, (h.get? b).isSome = true
abbrev tup2 (p : Nat) (t1 : Tok) (c : Str) (t2 : Tok) : Obj := { cls := .type "tuple", data := .seq #[.int p t1, .str c t2] }
/-- what a piece of the generator's run leaves alone: the consumer's own things -/
structure MvG (own : List Addr) (s s' : Shared) : Prop where
  own : ∀ b ∈ own, s'.heap.get? b = s.heap.get? b
  gens : s'.gens = s.gens
  drawn : s'.drawn = s.drawn
  os : s'.os = s.os
def Yp (h₀ : Heap) (own : List Addr) (its : List (Nat × Str)) : Protocol := fun m s₀ v s' kap =>
  ∃ fp p c ta t1 t2, (∀ b ∈ fp, b ∉ own) ∧ v = .ref ta ∧ its.reverse[m]? = some (p, c) ∧ s'.heap.get? ta = some (tup2 p t1 c t2) ∧ ta ∉ own ∧ MvG own s₀ s' ∧ keepBase h₀ s'.heap ∧
    (∀ s'', keepBase h₀ s''.heap → keepOn fp s'.heap s''.heap → live own s''.heap → kap (.send .none) s'')
def Rp (h₀ : Heap) (own : List Addr) : Nat → Shared → Shared → Prop := fun m s₀ s₁ => m = 0 ∧ MvG own s₀ s₁ ∧ keepBase h₀ s₁.heap
abbrev Re (h₀ : Heap) (own : List Addr) : GenEnd := fun n s₀ r s₁ => r = .ok (.ret .none) ∧ Rp h₀ own n s₀ s₁

theorem next_gen {prog : Program} {w : World} {A : Around} {E : Value → Shared → Prop} {s : Shared} {a : Addr} {g n : Nat} {gs : GenState} {P : Nat → Shared → Shared → Prop} {Y : Protocol} {Q : Option Value → Shared → Prop} (hh : A.handled = none)
    (hl : s.heap.NoLimit) (hroom : A.depth < recursionLimit)
    (hg : s.heap.IsGen a g) (hgs : s.gens[g]? = some gs)
    (hgo : gs.Goes (model prog w) A.in1 (fun n s₀ r s₁ => r = .ok (.ret .none) ∧ P n s₀ s₁) Y n (.send .none) (s.setGen g .running))
    (hY : ∀ v s₁ gs', gs'.bare = true → Y (n - 1) (s.setGen g .running) v s₁ (fun r' s'' => match n with
        | 0 => False
        | m + 1 => gs'.Goes (model prog w) A.in1 (fun n s₀ r s₁ => r = .ok (.ret .none) ∧ P n s₀ s₁) Y m r' s'') → Q (some v) (s₁.setGen g gs'))
    (hP : ∀ s₁, P n (s.setGen g .running) s₁ → ∀ h', (∀ b o, s₁.heap.get? b = some o → h'.get? b = some o) → Q none { s₁.setGen g .finished with heap := h' }) :
    wpAny (model prog w) A (pyNext (.ref a)) Q E s := by
  unfold pyNext
  refine wpAny_bind (wpAny_attempt (wpAny_callSpecial?_slot (name := Str.ofString "__next__") hg.typeIs slot_gen_next
    (wpAny_call_entry slot_gen_next hg.typeIs entry_gen_next ?_ (args_gen_next _))))
  show wpAny _ A.in1 (Builtin.Generator.genWake (.ref a) (.send .none)) _ _ s
  unfold Builtin.Generator.genWake
  refine wpAny_bind (wpAny_holding (wpAny_genNumber hg (wpAny_bind (wpAny_genState hgs ?_))))
  cases gs with
  | running => exact hgo.elim
  | finished => exact hgo.elim
  | _ =>
    refine wpAny_bind (wpAny_roomToWake hl hroom ?_)
    show wpAny _ A.in1 (.resume g (.send .none) [] _) _ _ s
    refine wpAny_resumeQ hgs hgo (fun x s₁ hx => ?_) (fun v s₁ gs' hb hv => ?_)
    · obtain ⟨rfl, hp⟩ := hx
      show wpAny _ A.in1 (newExc (.type "StopIteration") [] >>= _) _ _ _
      refine wpAny_bind ?_
      simp only [newExc, newTuple]
      refine wpAny_bind (wpAny_newObj_type ?_ (by size_fits))
      refine wpAny_bind (m := firstArgMember _ _) (wpAny_of_eq (a := Value.none) (by first | rfl | (simp only [firstArgMember]; rfl)) ?_)
      refine wpAny_newObj_type ?_ (by size_fits)
      simp only [raiseNew]
      refine wpAny_bind (wpAny_bind (wpAny_handled ?_))
      rw [show A.in1.handled = none from hh]
      refine wpAny_throw ?_
      refine wpAny_bind (wpAny_isInstance (T := "StopIteration") (b := true) ⟨_, Heap.get?_push_size _ rfl, rfl⟩ isSubtype_stop ?_)
      exact wpAny_pure (hP s₁ hp _ fun b o hb => Heap.get?_push_of_some _ (Heap.get?_push_of_some _ hb))
    · exact wpAny_pure ⟨v, rfl, wpAny_pure (hY v s₁ gs' hb hv)⟩

/-- the generator's object a (number g), j of its items taken; own: what the consumer may turn meanwhile -/
def GSt (prog : Program) (w : World) (A : Around) (h₀ : Heap) (a : Addr) (g : Nat) (own : List Addr) (its : List (Nat × Str)) (j : Nat) (s : Shared) : Prop :=
  s.heap.IsGen a g ∧ a ∈ own ∧ keepBase h₀ s.heap ∧ live own s.heap ∧ ∃ gs fp, s.gens[g]? = some gs ∧ (∀ b ∈ fp, b ∉ own) ∧
    ∀ s'' : Shared, keepBase h₀ s''.heap → keepOn fp s.heap s''.heap → live own s''.heap → gs.Goes (model prog w) A.in1 (Re h₀ own) (Yp h₀ own its) (its.length - j) (.send .none) s''

/-- what a turn of the generator leaves -/
structure GMv (own : List Addr) (g : Nat) (s s' : Shared) : Prop where
  own : ∀ b ∈ own, s'.heap.get? b = s.heap.get? b
  size : s'.gens.size = s.gens.size
  gens : ∀ i, i ≠ g → s'.gens[i]? = s.gens[i]?
  bare : AllBare s.gens → AllBare s'.gens
  drawn : s'.drawn = s.drawn
  os : s'.os = s.os

section
variable {prog : Program} {w : World} {A : Around} {h₀ : Heap} {a : Addr} {g : Nat} {own : List Addr} {its : List (Nat × Str)} {j : Nat} {s : Shared} {E : Value → Shared → Prop}
theorem allBare_set {G : Array GenState} {g : Nat} {x : GenState} (h : AllBare G) (hx : x.bare = true) : AllBare (G.setIfInBounds g x) := by
  intro y hy
  rcases Array.mem_or_eq_of_mem_setIfInBounds hy with hy | hy
  · exact h y hy
  · rw [hy]; exact hx
theorem GSt.frame {s' : Shared} (G : GSt prog w A h₀ a g own its j s) (hb : keepBase h₀ s'.heap) (ha : s'.heap.get? a = s.heap.get? a) (hk : ∀ b o, b ∉ own → s.heap.get? b = some o → s'.heap.get? b = some o)
    (hle : live own s'.heap) (hg : s'.gens[g]? = s.gens[g]?) : GSt prog w A h₀ a g own its j s' := by
  obtain ⟨⟨o, nm, qn, ho, r⟩, hao, hbase, hlive, gs, fp, hgs, hfp, go⟩ := G
  exact ⟨⟨o, nm, qn, ha.trans ho, r⟩, hao, hb, hle, gs, fp, hg.trans hgs, hfp, fun s'' k1 k2 k3 => go s'' k1 (fun b hb o e => k2 b hb o (hk b o (hfp b hb) e)) k3⟩
theorem GSt.lt (G : GSt prog w A h₀ a g own its j s) : g < s.gens.size := by
  obtain ⟨_, _, _, _, gs, fp, hgs, _⟩ := G
  exact (Array.getElem?_eq_some_iff.mp hgs).1
theorem GSt.item {p : Nat} {c : Str} {Q : Option Value → Shared → Prop} (hh : A.handled = none) (hl : h₀.NoLimit) (hroom : A.depth < recursionLimit)
    (G : GSt prog w A h₀ a g own its j s) (hj : its[j]? = some (p, c))
    (hQ : ∀ ta t1 t2 s', GSt prog w A h₀ a g own its (j + 1) s' → s'.heap.get? ta = some (tup2 p t1 c t2) → ta ∉ own → GMv own g s s' → Q (some (.ref ta)) s') :
    wpAny (model prog w) A (pyNext (.ref a)) Q E s := by
  obtain ⟨hgen, hao, hbase, hlive, gs, fp, hgs, hfp, go⟩ := G
  have hlt : j < its.length := (List.getElem?_eq_some_iff.mp hj).1
  obtain ⟨m, hm⟩ : ∃ m, its.length - j = m + 1 := ⟨its.length - j - 1, by omega⟩
  rw [hm] at go
  have hgl : g < s.gens.size := (Array.getElem?_eq_some_iff.mp hgs).1
  refine next_gen (P := Rp h₀ own) (Y := Yp h₀ own its) (n := m + 1) hh (hl.keeps hbase) hroom hgen hgs (go _ hbase (fun b _ o e => e) hlive) ?_ ?_
  · intro v s₁ gs' hbare hy
    obtain ⟨fp', p', c', ta, t1, t2, hfp', rfl, hit, hta, htao, mv, hb₁, kap⟩ := hy
    have hrev : its.reverse[m]? = some (p, c) := by
      rw [List.getElem?_reverse (by omega), show its.length - 1 - m = j by omega]; exact hj
    rw [show m + 1 - 1 = m from rfl, hrev] at hit
    cases hit
    have hg1 : s₁.gens = s.gens.setIfInBounds g .running := mv.gens
    refine hQ ta t1 t2 _ ⟨?_, hao, hb₁, fun b hb => (congrArg Option.isSome (mv.own b hb)).trans (hlive b hb), gs', fp', ?_, hfp', fun s'' k1 k2 k3 => ?_⟩ hta htao ⟨mv.own, ?_, ?_, ?_, mv.drawn, mv.os⟩
    · obtain ⟨o, nm, qn, ho, r⟩ := hgen
      exact ⟨o, nm, qn, (mv.own a hao).trans ho, r⟩
    · show (s₁.gens.setIfInBounds g gs')[g]? = some gs'
      rw [hg1]; simp [hgl]
    · have := kap s'' k1 k2 k3
      rw [show its.length - (j + 1) = m by omega]; exact this
    · show (s₁.gens.setIfInBounds g gs').size = _
      rw [hg1]; simp
    · intro i hi
      show (s₁.gens.setIfInBounds g gs')[i]? = _
      rw [hg1]; simp [Ne.symm hi]
    · intro hb
      show AllBare (s₁.gens.setIfInBounds g gs')
      rw [hg1]; exact allBare_set (allBare_set hb rfl) hbare
  · intro s₁ hp
    exact absurd hp.1 (by omega)
theorem GSt.done {Q : Option Value → Shared → Prop} (hh : A.handled = none) (hl : h₀.NoLimit) (hroom : A.depth < recursionLimit)
    (G : GSt prog w A h₀ a g own its its.length s)
    (hQ : ∀ s', keepBase h₀ s'.heap → GMv own g s s' → Q none s') :
    wpAny (model prog w) A (pyNext (.ref a)) Q E s := by
  obtain ⟨hgen, hao, hbase, hlive, gs, fp, hgs, hfp, go⟩ := G
  rw [Nat.sub_self] at go
  refine next_gen (P := Rp h₀ own) (Y := Yp h₀ own its) (n := 0) hh (hl.keeps hbase) hroom hgen hgs (go _ hbase (fun b _ o e => e) hlive) ?_ ?_
  · intro v s₁ gs' hbare hy
    obtain ⟨fp', p', c', ta, t1, t2, hfp', rfl, hit, hta, htao, mv, hb₁, kap⟩ := hy
    exact (kap s₁ hb₁ (fun b _ o e => e) fun b hb => (congrArg Option.isSome (mv.own b hb)).trans (hlive b hb)).elim
  · intro s₁ hp h' hk
    obtain ⟨_, mv, hb₁⟩ := hp
    have hg1 : s₁.gens = s.gens.setIfInBounds g .running := mv.gens
    refine hQ _ (fun b o e => hk b o (hb₁ b o e)) ⟨fun b hb => ?_, ?_, ?_, ?_, mv.drawn, mv.os⟩
    · obtain ⟨o, ho⟩ := Option.isSome_iff_exists.mp (hlive b hb)
      exact (hk b o ((mv.own b hb).trans ho)).trans ho.symm
    · show (s₁.gens.setIfInBounds g _).size = _
      rw [hg1]; simp
    · intro i hi
      show (s₁.gens.setIfInBounds g _)[i]? = _
      rw [hg1]; simp [Ne.symm hi]
    · intro hb
      show AllBare (s₁.gens.setIfInBounds g _)
      rw [hg1]; exact allBare_set (allBare_set hb rfl) rfl
end
end Mine
end
section
theorem Mine.walk_reset_G3 : True := by
  w_top off
  trivial
open PySem PySem.W PyProof.Rows
set_option maxRecDepth 100000
set_option maxHeartbeats 2000000
namespace Mine
theorem fresh_off {own : List Addr} {h : Heap} {L : Nat} (hown : live own h) (hL : h.objs.size ≤ L) : L ∉ own := fun hm => by
  obtain ⟨o, ho⟩ := Option.isSome_iff_exists.mp (hown L hm)
  have h1 : @LT.lt Nat _ L h.objs.size := Heap.lt_size ho
  omega
theorem off_cons {own : List Addr} {L a : Nat} (h : L ∉ own) (ha : L ≠ a) : L ∉ (a : Addr) :: own := fun hm => by
  rcases List.mem_cons.mp hm with e | hm
  · exact ha e
  · exact h hm
/-- the items of the generator: from place i on, a backslash pending or not -/
def escF : Nat → Bool → List Nat → List (Nat × Str)
  | i, true, [] => [(i - 1, ⟨#[92]⟩)]
  | _, false, [] => []
  | i, true, c :: r => (i, ⟨#[92, c]⟩) :: escF (i + 1) false r
  | i, false, c :: r => if c = 92 then escF (i + 1) true r else (i, ⟨#[c]⟩) :: escF (i + 1) false r

theorem enterGen {prog : Program} {w : World} {A : Around} {s : Shared} {K : Frag} {R : Result → Shared → Prop} {name qual : Str} {params : Arguments} {body : List Stmt} {scope : Scope} {dV kV doc pm cdv ct oc : Value} {an od : Option Addr} {osl : Array (Option Value)} {f : Addr} {args : Args} {binds : List (Str × Value)}
    (X : K.In s.heap) (hlim : s.heap.NoLimit)
    (ho : K.lookup f = some ⟨oc, od, .func (fnOf name qual params body scope dV kV doc pm an cdv ct), osl⟩) (hcd : codeIn K cdv qual = true) (hroom : A.depth < recursionLimit)
    (hbind : BindsTo s (fnOf name qual params body scope dV kV doc pm an cdv ct) args binds) (hloc : ∀ y ∈ binds, scope.names.lookup y.1 = some .local)
    (h : ∀ (h₁ : Heap) (L : Nat), L = s.heap.objs.size → h₁.objs.size = L + 1 → Fr s.heap L h₁ (fun y => binds.reverse.lookup y) → ∀ tk,
      R (.ok (.ret (.ref h₁.objs.size))) { s with gens := s.gens.push (.fresh (.func body (envOf qual scope L f cdv))), toks := tk + 1 + 1, heap := h₁.push { cls := .type "generator", data := .fields #[.int s.gens.size 0, .str name tk, .str qual (tk + 1)] } })
    (hco : scope.isCoroutine = false) (hgen : scope.isGenerator = true) (hk : scope.kind = .function)
    (hcell : ∀ x ∈ scope.names, x.2 ≠ .cell) : codeAny (model prog w) A (.call (.ref f) args) R s := by
  refine codeAny_call_generator hroom (X _ _ ho) rfl hco hgen rfl (codeRec_of X hcd) ?_
  refine hbind _ _ _ _ (wpAny_newFunctionEnv hcell hloc (fun h₁ hns hsb => ⟨hlim.fresh _ hsb, ?_⟩) hk)
  exact h h₁ _ rfl (by rw [hsb.1, Heap.size_push]) ⟨hns, fun b o e => hsb.extBut b o (Nat.ne_of_lt (Heap.lt_size e)) (Heap.get?_push_of_some _ e), Nat.le_refl _⟩ _

def M4 (xv pv : Value) (b : Bool) (cv : Option Value) : Str → Option Value := fun y =>
  if y = "escape" then some (.bool b) else if y = "ch" then cv else if y = "pos" then some pv else if y = "addr" then some xv else none
theorem M4_start (x : Str) (t : Tok) (v : Value) (b : Bool) : (fun y : Str => if y = "escape" then some (Value.bool b) else if y = "pos" then some v else [((Str.ofString "addr"), Value.str x t)].reverse.lookup y) = M4 (.str x t) v b none := by
  funext y
  unfold M4
  by_cases h1 : y = "escape"
  · rw [if_pos h1, if_pos h1]
  · rw [if_neg h1, if_neg h1]
    by_cases h2 : y = "ch"
    · subst h2; rfl
    · rw [if_neg h2]
      by_cases h3 : y = "pos"
      · rw [if_pos h3, if_pos h3]
      · rw [if_neg h3, if_neg h3]
        by_cases h4 : y = "addr"
        · subst h4; rfl
        · rw [if_neg h4]
          simp only [List.reverse_cons, List.reverse_nil, List.nil_append, List.lookup]
          have : (y == Str.ofString "addr") = false := by simpa using h4
          rw [this]
theorem M4_turn (xv pv pv' c : Value) (b : Bool) (cv : Option Value) : (fun y : Str => if y = "ch" then some c else if y = "pos" then some pv' else M4 xv pv b cv y) = M4 xv pv' b (some c) := by
  funext y
  unfold M4
  by_cases h1 : y = "escape"
  · subst h1; rfl
  · by_cases h2 : y = "ch"
    · subst h2; rfl
    · by_cases h3 : y = "pos"
      · subst h3; rfl
      · simp only [h1, h2, h3, if_false]
theorem M4_esc (xv pv : Value) (b b' : Bool) (cv : Option Value) : (fun y : Str => if y = "escape" then some (Value.bool b') else M4 xv pv b cv y) = M4 xv pv b' cv := by
  funext y
  unfold M4
  by_cases h1 : y = "escape"
  · rw [if_pos h1, if_pos h1]
  · rw [if_neg h1, if_neg h1, if_neg h1]

def ownL (own : List Addr) (h : Heap) : List (Addr × Obj) := own.filterMap fun b => (h.get? b).map fun o => (b, o)
theorem ownL_news {own : List Addr} {h₀ h : Heap} {L : Addr} (hL : L ∉ own) (h0 : ∀ b ∈ own, h₀.get? b = none) : News h₀ L h (ownL own h) := by
  intro p hp
  obtain ⟨b, hb, he⟩ := List.mem_filterMap.mp hp
  obtain ⟨o, ho, rfl⟩ := Option.map_eq_some_iff.mp he
  exact ⟨ho, fun e => hL (e ▸ hb), h0 b hb⟩
theorem ownL_back {own : List Addr} {h₀ h h' : Heap} {L : Addr} (hl : live own h) (N : News h₀ L h' (ownL own h)) : ∀ b ∈ own, h'.get? b = h.get? b := by
  intro b hb
  obtain ⟨o, ho⟩ := Option.isSome_iff_exists.mp (hl b hb)
  have hm : (b, o) ∈ ownL own h := List.mem_filterMap.mpr ⟨b, hb, by rw [ho]; rfl⟩
  exact (N _ hm).1.trans ho.symm
theorem live_back {own : List Addr} {h h' : Heap} (hl : live own h) (e : ∀ b ∈ own, h'.get? b = h.get? b) : live own h' := fun b hb => (congrArg Option.isSome (e b hb)).trans (hl b hb)
theorem fr_off {h₀ h h' : Heap} {L : Addr} {m : Str → Option Value} (F : Fr h₀ L h m) (hk : ∀ b o, h.get? b = some o → (b = L ∨ h₀.get? b = some o) → h'.get? b = some o) : Fr h₀ L h' m := by
  obtain ⟨o, es, ep, ho, r⟩ := F.ns
  exact ⟨⟨o, es, ep, hk L o ho (.inl rfl), r⟩, fun b o e => hk b o (F.keep b o e) (.inr e), F.above⟩
theorem news_off {h₀ h h' : Heap} {L : Addr} {nws : List (Addr × Obj)} (N : News h₀ L h nws) (hk : ∀ p ∈ nws, h.get? p.1 = some p.2 → h'.get? p.1 = some p.2) : News h₀ L h' nws :=
  fun p hp => ⟨hk p hp (N p hp).1, (N p hp).2⟩
/-- the generator's own state ahead of a turn: i signs read -/
structure LS (h₀ : Heap) (L e it : Nat) (x : Str) (t : Tok) (nws : List (Addr × Obj)) (i : Nat) (b : Bool) (h : Heap) : Prop where
  fr : ∃ pv tk cv, Fr h₀ L h (M4 (.str x t) (.int pv tk) b cv) ∧ (b = true → pv = (i : Int) - 1 ∧ 1 ≤ i)
  en : ∃ old, IsEnum h e it i old
  si : h.IsStrIter it "str_ascii_iterator" x t i
  nw : News h₀ L h nws
theorem ownL_mem {own : List Addr} {h : Heap} {p : Addr × Obj} (hp : p ∈ ownL own h) : p.1 ∈ own := by
  obtain ⟨b, hb, he⟩ := List.mem_filterMap.mp hp
  obtain ⟨o, ho, rfl⟩ := Option.map_eq_some_iff.mp he
  exact hb
theorem off2 {b e i : Nat} (h1 : b ≠ e) (h2 : b ≠ i) : b ∉ ([e, i] : List Addr) := by
  intro hm
  rcases List.mem_cons.mp hm with h | h
  · exact h1 h
  · exact h2 (List.mem_singleton.mp h)
theorem ne_of_none {h₀ : Heap} {b c : Nat} {o : Obj} (h : h₀.get? b = some o) (h' : h₀.get? c = none) : b ≠ c := by
  intro e; subst e; rw [h] at h'; cases h'
theorem news_cons {h₀ h : Heap} {L a : Addr} {o : Obj} {nws : List (Addr × Obj)} (ha : h.get? a = some o) (hL : a ≠ L) (h0 : h₀.get? a = none) (N : News h₀ L h nws) : News h₀ L h ((a, o) :: nws) := by
  intro q hq
  rcases List.mem_cons.mp hq with rfl | hq
  · exact ⟨ha, hL, h0⟩
  · exact N q hq
theorem news_tail {h₀ h : Heap} {L : Addr} {q : Addr × Obj} {nws : List (Addr × Obj)} (N : News h₀ L h (q :: nws)) : News h₀ L h nws := fun p hp => N p (.tail _ hp)
theorem off3 {a b c : Nat} {own : List Addr} (ha : a ∉ own) (hb : b ∉ own) (hc : c ∉ own) : ∀ x ∈ ([a, b, c] : List Addr), x ∉ own := by
  intro x hx
  rcases List.mem_cons.mp hx with rfl | hx
  · exact ha
  · rcases List.mem_cons.mp hx with rfl | hx
    · exact hb
    · rw [List.mem_singleton.mp hx]; exact hc
theorem off1 {a : Addr} {own : List Addr} (ha : a ∉ own) : ∀ x ∈ ([a] : List Addr), x ∉ own := by
  intro x hx
  rw [List.mem_singleton.mp hx]; exact ha
theorem fr_at {h₀ h h' : Heap} {L : Addr} {m : Str → Option Value} (F : Fr h₀ L h m) (hk : keepBase h₀ h') (hL : ∀ o, h.get? L = some o → h'.get? L = some o) : Fr h₀ L h' m := by
  obtain ⟨o, es, ep, ho, r⟩ := F.ns
  exact ⟨⟨o, es, ep, hL o ho, r⟩, hk, F.above⟩
theorem sgl_beq (c d : Nat) : ((⟨#[c]⟩ : Str) == (⟨#[d]⟩ : Str)) = decide (c = d) := by
  by_cases h : c = d
  · subst h; simp
  · rw [decide_eq_false h]
    refine beq_eq_false_iff_ne.mpr fun e => h ?_
    injection e with e
    simpa using e
theorem str_bs : (Str.ofString "\\") = ⟨#[92]⟩ := by decide
theorem rev_at {α : Type} {l pre tl : List α} {a : α} (h : l = pre ++ a :: tl) : l.reverse[tl.length]? = some a := by
  subst h
  simp
theorem above_none {h₀ : Heap} {b : Nat} (h : h₀.objs.size ≤ b) : h₀.get? b = none := by
  cases e : h₀.get? b with
  | none => rfl
  | some o =>
    have h1 : @LT.lt Nat _ b h₀.objs.size := Heap.lt_size e
    omega

theorem gen_make {prog : Program} {w : World} {A A₁ : Around} {s : Shared} {R : Result → Shared → Prop} {p : Program} {loose : List Str} {mean : ExcName → Option Value} {mg mb : Str → Option Value} {x : Str} {t : Tok} {h₀ : Heap} {own : List Addr}
    (X : (hd.heap_39 w.params).In h₀) (T : Top p loose mean mg mb h₀) (hb : keepBase h₀ s.heap) (hsz : h₀.objs.size ≤ s.heap.objs.size) (hown : live own s.heap) (hown0 : ∀ b ∈ own, h₀.get? b = none) (hx : x.cps.all (· < 128) = true)
    (hdp : A.depth < recursionLimit) (hh : A₁.handled = none) (hd1 : A₁.depth + 10 < recursionLimit) (hu1 : A₁.units + 20 < cLine)
    (hR : ∀ a s', GSt prog w A₁ h₀ a s.gens.size (a :: own) (escF 0 false x.cps.toList) 0 s' → keepBase s.heap s'.heap → s.heap.objs.size ≤ a →
      (∃ gs, gs.bare = true ∧ s'.gens = s.gens.push gs) → s'.drawn = s.drawn → s'.os = s.os → R (.ok (.ret (.ref a))) s') :
    codeAny (model prog w) A (.call (.ref 28) ⟨[.str x t], []⟩) R s := by
  have X' := X.keeps hb
  refine' enterGen (K := hd.heap_39 w.params) X' (T.nolimit.keeps hb) ?k6 ?k7 hdp ?k9 ?kB ?_ ?c2 ?c3 ?c4 ?c5
  case k6 => k_is
  case k7 => k_is
  case k9 => exact BindsTo.of_eq rfl
  case kB => exact locs rfl
  case c2 => exact rfl
  case c3 => exact rfl
  case c4 => exact rfl
  case c5 => decide
  intro h₁ L hL hz F tk
  refine hR _ _ ⟨⟨_, _, _, Heap.get?_push_size _ rfl, rfl, rfl, rfl⟩, List.mem_cons_self .., fun b o e => Heap.get?_push_of_some _ (F.keep b o (hb b o e)), ?lv, _, [L], Array.getElem?_push_size .., ?fp, ?goes⟩
    (fun b o e => Heap.get?_push_of_some _ (F.keep b o e)) (by omega) ⟨_, rfl, rfl⟩ rfl rfl
  case lv =>
    intro b hb'
    rcases List.mem_cons.mp hb' with rfl | hb'
    · rw [Heap.get?_push_size _ rfl]; rfl
    · obtain ⟨o, ho⟩ := Option.isSome_iff_exists.mp (hown b hb')
      rw [Heap.get?_push_of_some _ (F.keep b o ho)]; rfl
  case fp =>
    intro b hb'
    rw [List.mem_singleton.mp hb']
    exact off_cons (fresh_off hown (by omega)) (by omega)
  case goes =>
    intro s₂ kb ko lv
    refine ⟨rfl, ?_⟩
    have F₂ : Fr h₀ L s₂.heap (fun y => [((Str.ofString "addr"), Value.str x t)].reverse.lookup y) := by
      obtain ⟨o, es, ep, ho, r⟩ := F.ns
      exact ⟨⟨o, es, ep, ko L (List.mem_singleton.mpr rfl) o (Heap.get?_push_of_some _ ho), r⟩, kb, by omega⟩
    have hLo : L ∉ h₁.objs.size :: own := off_cons (fresh_off hown (by omega)) (by omega)
    have hO0 : ∀ b ∈ ((h₁.objs.size : Addr) :: own), h₀.get? b = none := by
      intro b hb'
      rcases List.mem_cons.mp hb' with rfl | hb'
      · exact above_none (by omega)
      · exact hown0 b hb'
    generalize (h₁.objs.size : Addr) :: own = own' at *
    clear hR F ko
    have N₂ : News h₀ L s₂.heap (ownL own' s₂.heap) := ownL_news hLo hO0
    refine seg_func ?_
    refine seg_execs_cons (seg_stmt ?_)
    walk1
    walk1
    walk1
    refine seg_execs_cons (seg_stmt ?_)
    walk1
    walk1
    walk1
    refine seg_execs_cons (seg_For ?_)
    walk1
    walk1
    walk1
    walk1
    walk1
    walk1
    refine call_enumerate_str fun h₅ hen hsi hz₅ hk₅ => ?_
    refine wpAny_pyIter_enum hen ?_
    intro p k hk
    rename_i h₆ F₆ N₆
    dsimp only at h₅ hen hsi hz₅ hk₅
    rw [M4_start] at F₆
    have lv₆ : live own' h₆ := live_back lv (ownL_back lv N₆)
    have hLlt : L < h₆.objs.size := F₆.ns.lt
    obtain ⟨it, hit⟩ : ∃ it : Nat, it = h₆.objs.size := ⟨_, rfl⟩
    rw [← hit] at hen hsi hz₅ ⊢
    have hito : it ∉ own' := fresh_off lv₆ (by omega)
    have heo : it + 1 ∉ own' := fresh_off lv₆ (by omega)
    have hi0 : h₀.get? it = none := above_none (by have := F₆.above; omega)
    have he0 : h₀.get? (it + 1) = none := above_none (by have := F₆.above; omega)
    have LS₀ : LS h₀ L (it + 1) it x t (ownL own' s₂.heap) 0 false h₅ := ⟨⟨_, _, _, fr_off F₆ fun b o e _ => hk₅ b o e, fun e => by cases e⟩, ⟨_, hen⟩, by rw [strIterType, if_pos hx] at hsi; exact hsi, news_off N₆ fun q _ e => hk₅ _ _ e⟩
    clear hen hsi N₆ F₆ hk₅ lv₆
    rw [Nat.sub_zero]
    have hLi : L ≠ it := by omega
    have hLe : L ≠ it + 1 := by omega
    obtain ⟨its, hits⟩ : ∃ its, its = escF 0 false x.cps.toList := ⟨_, rfl⟩
    have Z : ∃ (rest : List Nat) (i : Nat) (b : Bool), (escF 0 false x.cps.toList).length = (escF i b rest).length ∧ rest = x.cps.toList.drop i ∧ i ≤ x.cps.size ∧ LS h₀ L (it + 1) it x t (ownL own' s₂.heap) i b h₅ ∧ live own' s₂.heap ∧
        (∃ pre, its = pre ++ escF i b rest) := ⟨_, 0, false, rfl, rfl, Nat.zero_le _, LS₀, lv, [], hits⟩
    rw [← hits] at Z hk ⊢
    clear LS₀ lv kb hz₅ hits
    dsimp only
    generalize hs : Shared.mk h₅ s₂.gens s₂.drawn _ s₂.os = s
    rw [show h₅ = s.heap by rw [← hs]] at Z
    have hg : s.gens = s₂.gens ∧ s.drawn = s₂.drawn ∧ s.os = s₂.os := by rw [← hs]; exact ⟨rfl, rfl, rfl⟩
    clear hs
    generalize its.length = n at Z ⊢
    generalize s₂ = s₀ at Z hg ⊢
    obtain ⟨rest, i, b, hn, hrest, hile, hLS, lv, hpre⟩ := Z
    have W : ∀ B : Around, B.handled = none → _ := fun B hB => WalksT.enumerateD (prog := prog) (w := w) (A := B) (Draws.strAscii (A := B.in1) hB it x t) (it + 1) (Nat.succ_ne_self it) (by simp) (by simp)
    have kp : ∀ {s₀ : Shared} {h h' : Heap}, (∀ b o, b ∉ ([it + 1, it] : List Addr) → h.get? b = some o → h'.get? b = some o) → ∀ {m}, Fr h₀ L h m → News h₀ L h (ownL own' s₀.heap) → Fr h₀ L h' m ∧ News h₀ L h' (ownL own' s₀.heap) := by
      intro s₀ h h' hk m F N
      refine ⟨fr_off F fun b o e hb => hk b o ?_ e, news_off N fun q hq e => hk _ _ ?_ e⟩
      · rcases hb with rfl | hb
        · exact off2 hLe hLi
        · exact off2 (ne_of_none hb he0) (ne_of_none hb hi0)
      · have := ownL_mem hq
        exact off2 (fun e => heo (e ▸ this)) (fun e => hito (e ▸ this))
    induction rest generalizing n s₀ s i b with
    | nil =>
      obtain ⟨⟨pv, tkp, cv, F, hpv⟩, hen, hsi, N⟩ := hLS
      have hi : i = x.cps.size := by
        have := congrArg List.length hrest
        simp at this
        omega
      subst hi
      refine seg_forLoop ?_
      refine (W _ (by exact hh)).done s _ _ ⟨hen, hsi⟩ fun h1 tk1 hk1 => ?_
      obtain ⟨F1, N1⟩ := kp hk1 F N
      clear N F hen hsi
      refine seg_block_nil (seg_leaf (.ok .next) (hk _ _ .next _ ?_))
      show Seg _ _ _ _ _ _ _ (Sem.wrap _ _ _ _ (execs _ _)) _ _
      refine seg_execs_cons (seg_If ?_)
      cases b with
      | true =>
        walk1
        walk1
        walk1
        rw [if_pos rfl]
        obtain rfl : n = 0 + 1 := hn
        obtain rfl : pv = ((x.cps.size - 1 : Nat) : Int) := by have := hpv rfl; omega
        obtain ⟨pre, hpre⟩ := hpre
        refine seg_execs_cons (seg_Expr_Yield rfl rfl rfl ?_)
        walk1
        walk1
        walk1
        walk1
        walk1
        walk1
        refine newTuple_N F1 N1 fun h6 F6 N6 => ?_
        intro kap hkap
        have N6' : News h₀ L h6 (ownL own' s₀.heap) := news_tail N6
        refine ⟨[L], x.cps.size - 1, ⟨#[92]⟩, h1.objs.size, _, _, off1 hLo, rfl, rev_at hpre, (N6 _ (.head _)).1, ?_, ⟨ownL_back lv N6', hg.1, hg.2.1, hg.2.2⟩, F6.keep, fun s'' kb' ko lv' => hkap _ s'' ?_⟩
        · exact fresh_off (live_back lv (ownL_back lv N1)) (Nat.le_refl _)
        show Seg _ _ _ _ _ _ _ (leafOf (.ok (.ret .none))) _ _
        exact seg_end _ ⟨rfl, rfl, ⟨fun _ _ => rfl, rfl, rfl, rfl⟩, kb'⟩
      | false =>
        walk1
        walk1
        walk1
        rw [if_neg (by decide)]
        show Seg _ _ _ _ _ _ _ (leafOf (.ok (.ret .none))) _ _
        exact seg_end _ ⟨rfl, hn, ⟨ownL_back lv N1, hg.1, hg.2.1, hg.2.2⟩, F1.keep⟩
    | cons c rest ih =>
      obtain ⟨⟨pv, tkp, cv, F, hpv⟩, hen, hsi, N⟩ := hLS
      have hci : x.cps.toList[i]? = some c := by
        have := congrArg (·[0]?) hrest
        simpa using this.symm
      have hdr : rest = x.cps.toList.drop (i + 1) := by
        have := congrArg List.tail hrest
        simpa using this
      have hci' : x.cps[i]? = some c := by simpa using hci
      have hi : i < x.cps.size := (Array.getElem?_eq_some_iff.mp hci').1
      refine seg_forLoop ?_
      refine (W _ (by exact hh)).item i s _ _ hi ⟨hen, hsi⟩ fun T' vals h1 tk1 hP hT hTup hMid hk1 => ?_
      obtain ⟨t', v, ⟨c', u, hc', rfl⟩, rfl⟩ := hP
      obtain rfl : c' = c := by rw [hci'] at hc'; exact (Option.some.inj hc').symm
      obtain ⟨F1, N1⟩ := kp hk1 F N
      refine (W _ (by exact hh)).go _ _ _ i T' _ _ _ hMid fun h2 hst hk2 => ?_
      obtain ⟨F2, N2⟩ := kp hk2 F1 N1
      have hTup2 : h2.IsTuple T' #[Value.int (↑i) t', Value.str { cps := #[c'] } u] := by
        obtain ⟨o, ho, r⟩ := hTup
        exact ⟨o, hk2 _ _ ((W A₁ hh).apart i T' _ hMid) ho, r⟩
      refine wpAny_assign_Tuple (by exact hh) hTup2 rfl rfl fun h3 hx3 => ?_
      have F3 : Fr h₀ L h3 _ := fr_off F2 fun b o e _ => hx3 b o (Nat.ne_of_lt (Heap.lt_size e)) e
      have N3 : News h₀ L h3 _ := news_off N2 fun q _ e => hx3 _ _ (Nat.ne_of_lt (Heap.lt_size e)) e
      have hst3 : (∃ old, IsEnum h3 (it + 1) it ((i + 1 : Nat) : Int) old) ∧ h3.IsStrIter it "str_ascii_iterator" x t (i + 1) := by
        obtain ⟨⟨old, he⟩, o, ho, r⟩ := hst
        exact ⟨⟨old, hx3 _ _ (Nat.ne_of_lt (Heap.lt_size he)) he⟩, o, hx3 _ _ (Nat.ne_of_lt (Heap.lt_size ho)) ho, r⟩
      clear N2 F2 hst hTup2 hk2 hx3 N1 F1 hMid hTup hk1 N F hen hsi hT
      obtain ⟨⟨old, he3⟩, so, hs3, hsr⟩ := hst3
      replace N3 : News h₀ L h3 ((it + 1, _) :: (it, so) :: ownL own' s₀.heap) := news_cons he3 (Ne.symm hLe) he0 (news_cons hs3 (Ne.symm hLi) hi0 N3)
      clear he3 hs3
      refine wpAny_assignInOrder_more (wpAny_assign_Name (stN F3 N3 fun h4 F4 N4 => ?_))
      refine wpAny_assignInOrder_more (wpAny_assign_Name (stN F4 N4 fun h5 F5 N5 => ?_))
      refine wpAny_assignInOrder_none ?_
      rw [M4_turn] at F5
      clear F4 F3 N4 N3
      dsimp only
      refine seg_execs_cons (seg_If ?_)
      cases b with
      | true =>
        walk1
        walk1
        walk1
        obtain rfl : n = (escF (i + 1) false rest).length + 1 := hn
        rw [if_pos rfl]
        refine seg_execs_cons (seg_Expr_Yield rfl rfl rfl ?_)
        walk1
        walk1
        walk1
        walk1
        walk1
        walk1
        walk1
        walk1
        walk1
        refine newTuple_N F5 N5 fun h6 F6 N6 => ?_
        intro kap hkap
        have N6' : News h₀ L h6 (ownL own' s₀.heap) := news_tail (news_tail (news_tail N6))
        obtain ⟨pre, hpre⟩ := hpre
        refine ⟨[L, it + 1, it], i, ⟨#[92, c']⟩, h5.objs.size, _, _, off3 hLo heo hito, rfl, rev_at hpre, (N6 _ (.head _)).1, ?_, ⟨ownL_back lv N6', hg.1, hg.2.1, hg.2.2⟩, F6.keep, fun s'' kb' ko lv' => hkap _ s'' ?_⟩
        · exact fresh_off (live_back lv (ownL_back lv (news_tail (news_tail N5)))) (Nat.le_refl _)
        have F7 : Fr h₀ L s''.heap _ := fr_at F6 kb' (ko L (by simp))
        have N7 : News h₀ L s''.heap ((it + 1, _) :: (it, so) :: ownL own' s''.heap) := news_cons (ko _ (by simp) _ (N6 _ (.tail _ (.head _))).1) (Ne.symm hLe) he0 (news_cons (ko _ (by simp) _ (N6 _ (.tail _ (.tail _ (.head _)))).1) (Ne.symm hLi) hi0 (ownL_news hLo hO0))
        clear N6 F6 N6' N5 F5
        show Seg _ _ _ _ _ _ _ (Sem.wrap _ _ _ _ (execs _ _)) _ _
        refine seg_execs_cons (seg_stmt ?_)
        walk1
        walk1
        walk1
        rename_i h8 F8 N8
        rw [M4_esc] at F8
        show Seg _ _ _ _ _ _ _ (.pure (.again _)) _ _
        exact seg_again rfl (ih _ _ s'' ⟨rfl, rfl, rfl⟩ (i + 1) false rfl hdr hi ⟨⟨_, _, _, F8, fun e => by cases e⟩, ⟨old, (N8 _ (.head _)).1⟩, ⟨so, (N8 _ (.tail _ (.head _))).1, hsr⟩, news_tail (news_tail N8)⟩ lv' ⟨pre ++ [(i, ⟨#[92, c']⟩)], by rw [hpre, List.append_assoc]; rfl⟩)
      | false =>
        walk1
        walk1
        walk1
        rw [if_neg (by decide)]
        refine seg_execs_cons (seg_If ?_)
        walk1
        walk1
        walk1
        walk1
        walk1
        rw [str_bs, sgl_beq]
        by_cases h92 : c' = 92
        · rw [if_pos (decide_eq_true h92)]
          refine seg_execs_cons (seg_stmt ?_)
          walk1
          walk1
          walk1
          rename_i h8 F8 N8
          rw [M4_esc] at F8
          show Seg _ _ _ _ _ _ _ (.pure (.again _)) _ _
          have hE : escF i false (c' :: rest) = escF (i + 1) true rest := if_pos h92
          rw [hE] at hn hpre
          exact seg_again rfl (ih _ _ s₀ hg (i + 1) true hn hdr hi ⟨⟨_, _, _, F8, fun _ => ⟨by omega, by omega⟩⟩, ⟨old, (N8 _ (.head _)).1⟩, ⟨so, (N8 _ (.tail _ (.head _))).1, hsr⟩, news_tail (news_tail N8)⟩ lv hpre)
        · rw [if_neg (by simpa using h92)]
          have hE : escF i false (c' :: rest) = (i, ⟨#[c']⟩) :: escF (i + 1) false rest := if_neg h92
          rw [hE] at hn hpre
          obtain rfl : n = (escF (i + 1) false rest).length + 1 := hn
          obtain ⟨pre, hpre⟩ := hpre
          refine seg_execs_cons (seg_Expr_Yield rfl rfl rfl ?_)
          walk1
          walk1
          walk1
          walk1
          walk1
          walk1
          refine newTuple_N F5 N5 fun h6 F6 N6 => ?_
          intro kap hkap
          have N6' : News h₀ L h6 (ownL own' s₀.heap) := news_tail (news_tail (news_tail N6))
          refine ⟨[L, it + 1, it], i, ⟨#[c']⟩, h5.objs.size, _, _, off3 hLo heo hito, rfl, rev_at hpre, (N6 _ (.head _)).1, ?_, ⟨ownL_back lv N6', hg.1, hg.2.1, hg.2.2⟩, F6.keep, fun s'' kb' ko lv' => hkap _ s'' ?_⟩
          · exact fresh_off (live_back lv (ownL_back lv (news_tail (news_tail N5)))) (Nat.le_refl _)
          have F7 : Fr h₀ L s''.heap _ := fr_at F6 kb' (ko L (by simp))
          have N7 : News h₀ L s''.heap ((it + 1, _) :: (it, so) :: ownL own' s''.heap) := news_cons (ko _ (by simp) _ (N6 _ (.tail _ (.head _))).1) (Ne.symm hLe) he0 (news_cons (ko _ (by simp) _ (N6 _ (.tail _ (.tail _ (.head _)))).1) (Ne.symm hLi) hi0 (ownL_news hLo hO0))
          show Seg _ _ _ _ _ _ _ (.pure (.again _)) _ _
          exact seg_again rfl (ih _ _ s'' ⟨rfl, rfl, rfl⟩ (i + 1) false rfl hdr hi ⟨⟨_, _, _, F7, fun e => by cases e⟩, ⟨old, (N7 _ (.head _)).1⟩, ⟨so, (N7 _ (.tail _ (.head _))).1, hsr⟩, news_tail (news_tail N7)⟩ lv' ⟨pre ++ [(i, ⟨#[c']⟩)], by rw [hpre, List.append_assoc]; rfl⟩)
end Mine
end
section
theorem Mine.walk_reset_S0 : True := by
  w_top off
  trivial
open PySem PySem.W PyProof.Rows
set_option maxRecDepth 100000
set_option maxHeartbeats 2000000
namespace Mine
/-- the end of a walk, by a name -/
theorem hide {M : Model} {A : Around} {E : Value → Shared → Prop} {s : Shared} {α : Type} {X : Sem α} {Q : α → Shared → Prop} (h : ∀ PP : α → Shared → Prop, (∀ f s, Q f s → PP f s) → wpAny M A X PP E s) : wpAny M A X Q E s := h Q fun _ _ z => z
/-- what a pure call leaves -/
structure Kp (s s' : Shared) : Prop where
  heap : keepBase s.heap s'.heap
  gens : ∀ (i : Nat) (st : GenState), s.gens[i]? = some st → s'.gens[i]? = some st
  bare : AllBare s.gens → AllBare s'.gens
  drawn : s'.drawn = s.drawn
  os : s'.os = s.os
/-- the same but for the heap -/
structure Gp (s s' : Shared) : Prop where
  gens : ∀ (i : Nat) (st : GenState), s.gens[i]? = some st → s'.gens[i]? = some st
  bare : AllBare s.gens → AllBare s'.gens
  drawn : s'.drawn = s.drawn
  os : s'.os = s.os
theorem Gp.refl (s : Shared) : Gp s s := ⟨fun _ _ e => e, id, rfl, rfl⟩
theorem Gp.eqs {s s' : Shared} (h1 : s'.gens = s.gens) (h2 : s'.drawn = s.drawn) (h3 : s'.os = s.os) : Gp s s' := ⟨fun _ _ e => h1 ▸ e, fun e => h1 ▸ e, h2, h3⟩
theorem Gp.trans {s s' s'' : Shared} (a : Gp s s') (b : Gp s' s'') : Gp s s'' := ⟨fun i st e => b.gens i st (a.gens i st e), fun e => b.bare (a.bare e), b.drawn.trans a.drawn, b.os.trans a.os⟩
theorem Kp.gp {s s' : Shared} (a : Kp s s') : Gp s s' := ⟨a.gens, a.bare, a.drawn, a.os⟩
theorem Kp.of {s s' : Shared} (h : keepBase s.heap s'.heap) (g : Gp s s') : Kp s s' := ⟨h, g.gens, g.bare, g.drawn, g.os⟩
theorem Kp.trans {s s' s'' : Shared} (a : Kp s s') (b : Kp s' s'') : Kp s s'' := .of (fun o e h => b.heap o e (a.heap o e h)) (a.gp.trans b.gp)
theorem Kp.fr {s s' : Shared} {h₀ : Heap} {L : Addr} {m : Str → Option Value} (k : Kp s s') (F : Fr h₀ L s.heap m) : Fr h₀ L s'.heap m := fr_at F (fun b o e => k.heap b o (F.keep b o e)) fun o e => k.heap L o e
theorem Kp.news {s s' : Shared} {h₀ : Heap} {L : Addr} {nws : List (Addr × Obj)} (k : Kp s s') (N : News h₀ L s.heap nws) : News h₀ L s'.heap nws := news_off N fun p _ e => k.heap _ _ e
theorem GMv.gp {own : List Addr} {g : Nat} {s s' s₀ : Shared} (m : GMv own g s s') (a : Gp s₀ s) (hg : s₀.gens.size ≤ g) : Gp s₀ s' :=
  ⟨fun i st e => by
    have hi : i < s₀.gens.size := (Array.getElem?_eq_some_iff.mp e).1
    exact (m.gens i (by omega)).trans (a.gens i st e), fun e => m.bare (a.bare e), m.drawn.trans a.drawn, m.os.trans a.os⟩
theorem Gp.pushed {s s' : Shared} {gs : GenState} (hb : gs.bare = true) (h1 : s'.gens = s.gens.push gs) (h2 : s'.drawn = s.drawn) (h3 : s'.os = s.os) : Gp s s' := by
  refine ⟨fun i st e => ?_, fun e y hy => ?_, h2, h3⟩
  · have hi : i < s.gens.size := (Array.getElem?_eq_some_iff.mp e).1
    rw [h1, Array.getElem?_push_lt hi]
    simpa [hi] using e
  · rw [h1] at hy
    rcases Array.mem_push.mp hy with hy | rfl
    · exact e y hy
    · exact hb

/-- all that stands in the heap but the base and what is one's own -/
def restL (h₀ h : Heap) (own : List Addr) : List (Addr × Obj) := (List.range h.objs.size).filterMap fun b => if b ∈ own ∨ (h₀.get? b).isSome = true then none else (h.get? b).map fun o => (b, o)
theorem restL_mem {h₀ h : Heap} {own : List Addr} {q : Addr × Obj} (hq : q ∈ restL h₀ h own) : h.get? q.1 = some q.2 ∧ q.1 ∉ own ∧ h₀.get? q.1 = none := by
  obtain ⟨b, hb, he⟩ := List.mem_filterMap.mp hq
  split at he
  · cases he
  · rename_i hn
    obtain ⟨o, ho, rfl⟩ := Option.map_eq_some_iff.mp he
    refine ⟨ho, fun h => hn (.inl h), ?_⟩
    cases e : h₀.get? b with
    | none => rfl
    | some o' => exact absurd (.inr (by rw [e]; rfl)) hn
theorem restL_news {h₀ h : Heap} {own : List Addr} {L : Addr} (hL : L ∈ own) : News h₀ L h (restL h₀ h own) := fun q hq =>
  let z := restL_mem hq
  ⟨z.1, fun e => z.2.1 (e ▸ hL), z.2.2⟩
theorem restL_back {h₀ h h' : Heap} {own : List Addr} {L : Addr} (kb : keepBase h₀ h) (kb' : keepBase h₀ h') (N : News h₀ L h' (restL h₀ h own)) : ∀ b o, b ∉ own → h.get? b = some o → h'.get? b = some o := by
  intro b o hb ho
  cases e : h₀.get? b with
  | some o' =>
    have := kb b o' e
    rw [ho] at this
    rw [kb' b o' e, this]
  | none =>
    refine (N (b, o) (List.mem_filterMap.mpr ⟨b, List.mem_range.mpr (Heap.lt_size ho), ?_⟩)).1
    rw [if_neg (by rw [e]; simp [hb]), ho]; rfl
theorem restL_ne {h₀ h : Heap} {own : List Addr} {D : Addr} (hD : D ∈ own) : ∀ q ∈ restL h₀ h own, q.1 ≠ D := fun q hq e => (restL_mem hq).2.1 (e ▸ hD)
theorem strs_snoc {vs : List Value} {ys : List Str} {y : Str} {t : Tok} (h : StrsAre vs ys) : StrsAre (vs ++ [.str y t]) (ys ++ [y]) := by
  induction h with
  | nil => exact .cons _ _ .nil
  | cons z u _ ih => exact .cons _ _ ih

/-- a frame's names, written out -/
def mk : List (Str × Option Value) → Str → Option Value
  | [], _ => none
  | p :: r, y => if y = p.1 then p.2 else mk r y
def setL : List (Str × Option Value) → Str → Value → List (Str × Option Value)
  | [], k, v => [(k, some v)]
  | p :: r, k, v => if p.1 = k then (p.1, some v) :: r else p :: setL r k v
theorem mk_set (l : List (Str × Option Value)) (k : Str) (v : Value) : (fun y => if y = k then some v else mk l y) = mk (setL l k v) := by
  induction l with
  | nil => rfl
  | cons p r ih =>
    funext y
    have ih' := congrFun ih y
    unfold setL
    by_cases h : p.1 = k
    · rw [if_pos h]
      show _ = if y = p.1 then some v else mk r y
      subst h
      by_cases hy : y = p.1
      · rw [if_pos hy, if_pos hy]
      · rw [if_neg hy, if_neg hy]
        show (if y = p.1 then p.2 else mk r y) = _
        rw [if_neg hy]
    · rw [if_neg h]
      show (if y = k then some v else if y = p.1 then p.2 else mk r y) = if y = p.1 then p.2 else mk (setL r k v) y
      by_cases hy : y = p.1
      · rw [if_pos hy, if_pos hy, if_neg (by rw [hy]; exact h)]
      · rw [if_neg hy, if_neg hy]; exact ih'
theorem mk_setP (l : List (Str × Option Value)) (k : Str) (v : Value) (y : Str) : (if y = k then some v else mk l y) = mk (setL l k v) y := congrFun (mk_set l k v) y
theorem mk_set2 (l : List (Str × Option Value)) (k1 k2 : Str) (v1 v2 : Value) : (fun y => if y = k2 then some v2 else if y = k1 then some v1 else mk l y) = mk (setL (setL l k1 v1) k2 v2) := by
  funext y; rw [mk_setP, mk_setP]
theorem mk_set3 (l : List (Str × Option Value)) (k1 k2 k3 : Str) (v1 v2 v3 : Value) : (fun y => if y = k3 then some v3 else if y = k2 then some v2 else if y = k1 then some v1 else mk l y) = mk (setL (setL (setL l k1 v1) k2 v2) k3 v3) := by
  funext y; rw [mk_setP, mk_setP, mk_setP]
theorem mk_set4 (l : List (Str × Option Value)) (k1 k2 k3 k4 : Str) (v1 v2 v3 v4 : Value) : (fun y => if y = k4 then some v4 else if y = k3 then some v3 else if y = k2 then some v2 else if y = k1 then some v1 else mk l y) = mk (setL (setL (setL (setL l k1 v1) k2 v2) k3 v3) k4 v4) := by
  funext y; rw [mk_setP, mk_setP, mk_setP, mk_setP]
theorem mk_pad (l : List (Str × Option Value)) (k : Str) (h : mk l k = none) : mk l = mk (l ++ [(k, none)]) := by
  funext y
  induction l with
  | nil => show none = if y = k then none else none; split <;> rfl
  | cons p r ih =>
    show (if y = p.1 then p.2 else mk r y) = if y = p.1 then p.2 else mk (r ++ [(k, none)]) y
    by_cases hy : y = p.1
    · rw [if_pos hy, if_pos hy]
    · rw [if_neg hy, if_neg hy]
      by_cases hk : k = p.1
      · by_cases hyk : y = k
        · exact absurd (hyk.trans hk) hy
        · clear h ih hk
          induction r with
          | nil => show none = if y = k then none else none; split <;> rfl
          | cons q r ih2 =>
            show (if y = q.1 then q.2 else mk r y) = if y = q.1 then q.2 else mk (r ++ [(k, none)]) y
            by_cases hq : y = q.1
            · rw [if_pos hq, if_pos hq]
            · rw [if_neg hq, if_neg hq]; exact ih2
      · refine ih ?_
        have h' : (if k = p.1 then p.2 else mk r k) = none := h
        rwa [if_neg hk] at h'
theorem mk_arg1 (k : Str) (v : Value) : (fun y => [(k, v)].reverse.lookup y) = mk [(k, some v)] := by
  funext y
  show List.lookup y [(k, v)] = if y = k then some v else none
  simp only [List.lookup]
  by_cases h : y = k
  · subst h; simp
  · rw [if_neg h]
    have : (y == k) = false := by simpa using h
    rw [this]
theorem mk_arg2 (k1 k2 : Str) (v1 v2 : Value) : (fun y => [(k1, v1), (k2, v2)].reverse.lookup y) = mk [(k2, some v2), (k1, some v1)] := by
  funext y
  show List.lookup y [(k2, v2), (k1, v1)] = if y = k2 then some v2 else if y = k1 then some v1 else none
  simp only [List.lookup]
  by_cases h : y = k2
  · subst h; simp
  · rw [if_neg h]
    have : (y == k2) = false := by simpa using h
    rw [this]
    by_cases h' : y = k1
    · subst h'; simp
    · rw [if_neg h']
      have : (y == k1) = false := by simpa using h'
      rw [this]

/-- the for loop over an iterator whose tuples are its own -/
theorem codeAny_forLoopG {prog : Program} {w : World} {A : Around} {s : Shared} {R : Result → Shared → Prop} {target : Expr} {it : Value} {body orelse : List Stmt} {env : Env} (I : Nat → Shared → Prop)
    (turn : ∀ n s, I n s → wpAny (model prog w) A (pyNext it) (fun r s₁ => match r with
      | none => wpAny (model prog w) A (execs orelse env) (fun f s₃ => R (.ok f) s₃) (fun _ _ => False) s₁
      | some v => wpAny (model prog w) A (letOwnedTupleGo target it v) (fun _ s₁ => wpAny (model prog w) A (assign target env v) (fun _ s₂ => wpAny (model prog w) A (execs body env) (fun f s₃ => match f with
          | .next | .cont => ∃ m, m < n ∧ I m s₃
          | .brk => R (.ok .next) s₃
          | .ret v => R (.ok (.ret v)) s₃) (fun _ _ => False) s₂) (fun _ _ => False) s₁) (fun _ _ => False) s₁) (fun _ _ => False) s)
    (n : Nat) (h : I n s) : codeAny (model prog w) A (.forLoop target it body orelse env) R s := by
  refine codeAny_loop' rfl I (fun n s hI => ?_) n h
  show wpAny _ _ ((forTurn target it body orelse env).onRaise (fun x => do noteFrame x env; theTreesLotGoes x)) _ _ s
  refine wpAny_noted ?_
  simp only [forTurn]
  refine wpAny_bind (wpAny_standAt (wpAny_bind (wpAny_onRaise (wpAny_mono (turn n s hI) (fun r s₁ h₁ => ?_) fun _ _ h' => h'.elim))))
  cases r with
  | none => exact wpAny_pure (.inr ⟨rfl, codeAny_block (wpAny_mono h₁ (fun _ _ x => x) fun _ _ x => x.elim)⟩)
  | some v =>
    refine wpAny_bind (wpAny_mono h₁ (fun _ s₁ h₁ => ?_) fun _ _ h' => h'.elim)
    refine wpAny_bind (wpAny_mono h₁ (fun _ s₂ h₂ => wpAny_bind (wpAny_mono h₂ (fun f s₃ h₃ => ?_) fun _ _ h' => h'.elim)) fun _ _ h' => h'.elim)
    cases f with
    | next => exact wpAny_pure (.inl ⟨rfl, h₃⟩)
    | cont => exact wpAny_pure (.inl ⟨rfl, h₃⟩)
    | brk => exact wpAny_pure h₃
    | ret v => exact wpAny_pure h₃
theorem letGo_gen {prog : Program} {w : World} {A : Around} {E : Value → Shared → Prop} {s : Shared} {a g : Nat} {v : Value} {target : Expr} {Q : Unit → Shared → Prop} (hg : s.heap.IsGen a g) (h : Q () s) :
    wpAny (model prog w) A (letOwnedTupleGo target (.ref a) v) Q E s := by
  obtain ⟨o, nm, qn, ho, hc, hd, _⟩ := hg
  unfold letOwnedTupleGo
  split
  all_goals first
    | exact wpAny_pure h
    | (split
       · rename_i heq
         injection heq with h1 h2
         injection h1 with h1
         subst h1
         refine wpAny_bind (wpAny_load ho ?_)
         rw [hc, hd]
         exact wpAny_pure h
       · exact wpAny_pure h)
end Mine
end
section
theorem Mine.walk_reset_S1 : True := by
  w_top off
  trivial
open PySem PySem.W PyProof.Rows
set_option maxRecDepth 100000
set_option maxHeartbeats 2000000
namespace Mine

def slc (x : Str) (a b : Nat) : Str := Txt.slice x (some (a : Int)) (some (b : Int))
def sStep (x : Str) (q : Nat × Option Nat × List Str) (i : Nat × Str) : Nat × Option Nat × List Str :=
  if i.2 = ⟨#[34]⟩ then (match q.2.1 with
    | none => (q.1, some i.1, q.2.2)
    | some o => (i.1 + 1, none, if q.1 = o then q.2.2 else q.2.2 ++ [slc x q.1 o]))
  else q
theorem escF_len : ∀ (l : List Nat) (i : Nat) (b : Bool), (escF i b l).length ≤ l.length + (if b = true then 1 else 0)
  | [], _, true => by simp [escF]
  | [], _, false => by simp [escF]
  | c :: r, i, true => by
    have := escF_len r (i + 1) false
    simp only [escF, List.length_cons] at this ⊢
    simp only [if_true, Bool.false_eq_true, if_false] at this ⊢
    omega
  | c :: r, i, false => by
    have h1 := escF_len r (i + 1) false
    have h2 := escF_len r (i + 1) true
    unfold escF
    simp only [if_true, Bool.false_eq_true, if_false] at h1 h2 ⊢
    split
    · simp only [List.length_cons]; omega
    · simp only [List.length_cons]; omega
theorem sStep_bound (x : Str) : ∀ (l : List (Nat × Str)) (q : Nat × Option Nat × List Str), (l.foldl (sStep x) q).2.2.length ≤ q.2.2.length + l.length ∧ ((∀ y ∈ q.2.2, y.length ≤ x.length) → ∀ y ∈ (l.foldl (sStep x) q).2.2, y.length ≤ x.length)
  | [], q => ⟨Nat.le_refl _, id⟩
  | i :: l, q => by
    have ih := sStep_bound x l (sStep x q i)
    have h1 : (sStep x q i).2.2.length ≤ q.2.2.length + 1 ∧ ((∀ y ∈ q.2.2, y.length ≤ x.length) → ∀ y ∈ (sStep x q i).2.2, y.length ≤ x.length) := by
      unfold sStep
      split
      · split
        · exact ⟨Nat.le_succ _, id⟩
        · dsimp only
          split
          · exact ⟨Nat.le_succ _, id⟩
          · refine ⟨by simp, fun h y hy => ?_⟩
            rcases List.mem_append.mp hy with hy | hy
            · exact h y hy
            · rw [List.mem_singleton.mp hy]; exact Txt.slice_le _ _ _
      · exact ⟨Nat.le_succ _, id⟩
    rw [List.foldl_cons, List.length_cons]
    exact ⟨by omega, fun h => ih.2 (h1.2 h)⟩
theorem sum_le : ∀ (l : List Str) (n : Nat), (∀ y ∈ l, y.length ≤ n) → (l.map (·.length)).sum ≤ l.length * n
  | [], _, _ => by simp
  | y :: r, n, h => by
    have h1 := sum_le r n fun z hz => h z (.tail _ hz)
    have h2 := h y (.head _)
    simp only [List.map_cons, List.sum_cons, List.length_cons, Nat.add_mul, Nat.one_mul]
    omega
def optV : Option Nat → Tok → Value
  | none, _ => .none
  | some o, t => .int o t
def strip (x : Str) : Str := if 34 ∈ x.cps.toList then
    let q := (escF 0 false x.cps.toList).foldl (sStep x) (0, none, [])
    Txt.join (Str.ofString "") (if q.1 < x.cps.size then q.2.2 ++ [Txt.slice x (some (q.1 : Int)) none] else q.2.2)
  else x
theorem get_keep {own : List Addr} {h h' : Heap} {b : Addr} (k : ∀ b o, h.get? b = some o → h'.get? b = some o) (l : live own h) (hb : b ∈ own) : h'.get? b = h.get? b := by
  obtain ⟨o, ho⟩ := Option.isSome_iff_exists.mp (l b hb)
  rw [ho]; exact k b o ho
theorem live_keep {own : List Addr} {h h' : Heap} (k : ∀ b o, h.get? b = some o → h'.get? b = some o) (l : live own h) : live own h' := fun b hb => by
  rw [get_keep k l hb]; exact l b hb
theorem str_qt : (Str.ofString "\"") = ⟨#[34]⟩ := by decide
theorem strip_call {prog : Program} {w : World} {A : Around} {s : Shared} {R : Result → Shared → Prop} {p : Program} {loose : List Str} {mean : ExcName → Option Value} {mg mb : Str → Option Value} {x : Str} {t : Tok}
    (X : (hd.heap_39 w.params).In s.heap) (T : Top p loose mean mg mb s.heap) (hx : x.cps.all (· < 128) = true) (hlen : x.cps.size ≤ 1000)
    (hdp : A.depth + 20 < recursionLimit) (hh : A.handled = none) (hu : A.units + 50 < cLine)
    (hR : ∀ s' t', Kp s s' → R (.ok (.ret (.str (strip x) t'))) s') :
    codeAny (model prog w) A (.call (.ref 35) ⟨[.str x t], []⟩) R s := by
  refine' enter (K := hd.heap_39 w.params) X T.nolimit ?k6 ?k7 (by omega) ?k9 ?kB ?_ ?c2 ?c3 ?c4 ?c5
  case k6 => k_is
  case k7 => k_is
  case k9 => exact BindsTo.of_eq rfl
  case kB => exact locs rfl
  case c2 => exact rfl
  case c3 => exact rfl
  case c4 => exact rfl
  case c5 => decide
  intro h₁ L hL F
  replace F : Fr s.heap L h₁ (mk [("addr", some (.str x t))]) := mk_arg1 _ _ ▸ F
  have N : News s.heap L h₁ [] := News.nil
  generalize hB : Around.deeper A _ = B
  have hBh : B.handled = none := by rw [← hB]; exact hh
  have hBd : B.depth = A.depth + 1 := by rw [← hB]; rfl
  have hBu : B.units = A.units + 3 := by rw [← hB]; rfl
  clear hB
  walk1
  walk1
  walk1
  walk1
  walk1
  walk1
  walk1
  dsimp only
  rw [str_qt, StrLaws.found_one]
  by_cases h34 : 34 ∈ x.cps.toList
  · rw [if_neg (by simpa using h34)]
    have hil : (escF 0 false x.cps.toList).length ≤ 1000 := by
      have := escF_len x.cps.toList 0 false
      have h0 : x.cps.toList.length = x.cps.size := Array.length_toList
      simp only [Bool.false_eq_true, if_false] at this
      omega
    iterate 16 walk1
    rename_i hA D hB l1 hC F2 N2
    clear l1
    rw [mk_set3] at F2
    obtain ⟨tk0, F2⟩ : ∃ tk0, Fr s.heap L hC (mk [("addr", some (.str x t)), ("start", some (.int 0 tk0)), ("open_pos", some .none), ("result", some (.ref D))]) := ⟨_, F2⟩
    rw [mk_pad _ "pos" rfl, mk_pad _ "ch" rfl] at F2
    replace F2 : Fr s.heap L hC (mk [("addr", some (.str x t)), ("start", some (.int (0 : Nat) tk0)), ("open_pos", some (optV none 0)), ("result", some (.ref D)), ("pos", none), ("ch", none)]) := F2
    dsimp only
    refine wpAny_execs_cons (wpAny_For ?_)
    iterate 6 walk1
    refine ⟨X.keeps F2.keep, wpAny_call (gen_make (own := [L, D]) (A₁ := B) (h₀ := s.heap) X T F2.keep ?h1 ?h2 ?h3 hx ?h4 hBh ?h6 ?h7 ?_)⟩
    case h1 => have := F2.ns.lt; have : L < hC.objs.size := this; show s.heap.objs.size ≤ hC.objs.size; omega
    case h2 =>
      intro b hb
      rcases List.mem_cons.mp hb with rfl | hb
      · obtain ⟨o, _, _, ho, _⟩ := F2.ns
        show (hC.get? b).isSome = true
        rw [ho]; rfl
      · rw [List.mem_singleton.mp hb]
        show (hC.get? D).isSome = true
        rw [(N2 _ (.head _)).1]; rfl
    case h3 =>
      intro b hb
      rcases List.mem_cons.mp hb with rfl | hb
      · exact above_none (by omega)
      · rw [List.mem_singleton.mp hb]; exact (N2 _ (.head _)).2.2
    case h4 => omega
    case h6 => omega
    case h7 => omega
    intro a s1 G kb1 ha1 hg1 hd1 ho1
    dsimp only at G kb1 ha1 hg1 hd1 ho1 ⊢
    have F3 := fr_off F2 fun b o e _ => kb1 b o e
    have N3 := news_off N2 fun q _ e => kb1 _ _ e
    obtain ⟨gs, hgs, hg1⟩ := hg1
    have P3 : Gp s s1 := .pushed hgs hg1 hd1 ho1
    refine wpAny_pyIter_gen G.1 ?_
    refine codeAny_forLoopG (fun n s' => ∃ j q t1 t2 pv cv vs ep, n = (escF 0 false x.cps.toList).length + 1 - j ∧ j ≤ (escF 0 false x.cps.toList).length ∧ GSt prog w B s.heap a s.gens.size (a :: [L, D]) (escF 0 false x.cps.toList) j s' ∧ Gp s s' ∧
      q = ((escF 0 false x.cps.toList).take j).foldl (sStep x) (0, none, []) ∧ News s.heap L s'.heap [(D, W.listOf vs ep)] ∧ StrsAre vs.toList q.2.2 ∧
      Fr s.heap L s'.heap (mk [("addr", some (.str x t)), ("start", some (.int (q.1 : Nat) t1)), ("open_pos", some (optV q.2.1 t2)), ("result", some (.ref D)), ("pos", pv), ("ch", cv)])) ?_ ((escF 0 false x.cps.toList).length + 1)
      ⟨0, _, _, _, _, _, _, _, rfl, Nat.zero_le _, G, P3, rfl, N3, .nil, F3⟩
    · rintro n s' ⟨j, q, t1, t2, pv, cv, vs, ep, rfl, hj, G, P, hq, N, hS, F⟩
      by_cases hlt : j < (escF 0 false x.cps.toList).length
      · obtain ⟨⟨pp, c⟩, hjc⟩ : ∃ r, (escF 0 false x.cps.toList)[j]? = some r := ⟨_, List.getElem?_eq_getElem hlt⟩
        refine G.item hBh T.nolimit (by omega) hjc fun ta u1 u2 s2 G2 hta htao mv => ?_
        have F4 : Fr s.heap L s2.heap _ := fr_at F G2.2.2.1 fun o e => (mv.own L (by simp)).trans e
        have N4 : News s.heap L s2.heap [(D, W.listOf vs ep)] := news_off N fun q hq e => (mv.own q.1 (by rw [List.mem_singleton.mp hq]; simp)).trans e
        have P4 : Gp s s2 := mv.gp P (Nat.le_refl _)
        refine letGo_gen G2.1 ?_
        refine wpAny_assign_Tuple hBh ⟨_, hta, rfl, _, rfl⟩ rfl rfl fun h5 hx5 => ?_
        have kx : ∀ b o, s2.heap.get? b = some o → h5.get? b = some o := fun b o e => hx5 b o (Nat.ne_of_lt (Heap.lt_size e)) e
        have F5 := fr_off F4 fun b o e _ => kx b o e
        have N5 := news_off N4 fun q _ e => kx _ _ e
        have G5 : GSt prog w B s.heap a s.gens.size (a :: [L, D]) (escF 0 false x.cps.toList) (j + 1) ⟨h5, s2.gens, s2.drawn, s2.toks, s2.os⟩ := G2.frame F5.keep (get_keep kx G2.2.2.2.1 G2.2.1) (fun b o _ e => kx b o e) (live_keep kx G2.2.2.2.1) rfl
        have hDL : D ≠ L := (N5 _ (.head _)).2.1
        have haL : a ≠ L := fun e => absurd (e ▸ ha1 : hC.objs.size ≤ L) (Nat.not_le.mpr F2.ns.lt)
        have haD : a ≠ D := fun e => absurd (e ▸ ha1 : hC.objs.size ≤ D) (Nat.not_le.mpr (Heap.lt_size (N2 _ (.head _)).1))
        have N6 : News s.heap L h5 ((D, W.listOf vs ep) :: restL s.heap h5 [L, D]) := news_cons (N5 _ (.head _)).1 hDL (N5 _ (.head _)).2.2 (restL_news (by simp))
        clear N5 N4 F4 F kx hx5 hta mv N
        refine wpAny_assignInOrder_more (wpAny_assign_Name (stN F5 N6 fun h6 F6 N6 => ?_))
        refine wpAny_assignInOrder_more (wpAny_assign_Name (stN F6 N6 fun h7 F7 N7 => ?_))
        refine wpAny_assignInOrder_none ?_
        rw [mk_set2] at F7
        replace F7 : Fr s.heap L h7 (mk [("addr", some (.str x t)), ("start", some (.int (q.1 : Nat) t1)), ("open_pos", some (optV q.2.1 t2)), ("result", some (.ref D)), ("pos", some (.int pp u1)), ("ch", some (.str c u2))]) := F7
        clear F6 N6 F5
        dsimp only
        have fin : ∀ (s3 : Shared) (q' : Nat × Option Nat × List Str) (v1 v2 : Tok) vs' ep', q' = sStep x q (pp, c) → s3.gens = s2.gens → s3.drawn = s2.drawn → s3.os = s2.os → StrsAre vs'.toList q'.2.2 →
            Fr s.heap L s3.heap (mk [("addr", some (.str x t)), ("start", some (.int (q'.1 : Nat) v1)), ("open_pos", some (optV q'.2.1 v2)), ("result", some (.ref D)), ("pos", some (.int pp u1)), ("ch", some (.str c u2))]) →
            News s.heap L s3.heap ((D, W.listOf vs' ep') :: restL s.heap h5 [L, D]) → ∃ m, m < (escF 0 false x.cps.toList).length + 1 - j ∧ ∃ j q t1 t2 pv cv vs ep, m = (escF 0 false x.cps.toList).length + 1 - j ∧ j ≤ (escF 0 false x.cps.toList).length ∧ GSt prog w B s.heap a s.gens.size (a :: [L, D]) (escF 0 false x.cps.toList) j s3 ∧ Gp s s3 ∧
            q = ((escF 0 false x.cps.toList).take j).foldl (sStep x) (0, none, []) ∧ News s.heap L s3.heap [(D, W.listOf vs ep)] ∧ StrsAre vs.toList q.2.2 ∧
            Fr s.heap L s3.heap (mk [("addr", some (.str x t)), ("start", some (.int (q.1 : Nat) t1)), ("open_pos", some (optV q.2.1 t2)), ("result", some (.ref D)), ("pos", pv), ("ch", cv)]) := by
          intro s3 q' v1 v2 vs' ep' hq' e1 e2 e3 hS' F8 N8
          have kb := restL_back G5.2.2.1 F8.keep (news_tail N8)
          refine ⟨_, by omega, j + 1, q', v1, v2, _, _, vs', ep', rfl, hlt, ?_, P4.trans (.eqs e1 e2 e3), ?_, fun p hp => ?_, hS', F8⟩
          · refine G5.frame F8.keep ?_ (fun b o hb e => kb b o (fun h => hb (.tail _ h)) e) ?_ (by rw [e1])
            · obtain ⟨o, _, _, ho, _⟩ := G5.1
              rw [ho]; exact kb a o (off2 haL haD) ho
            · intro b hb
              rcases List.mem_cons.mp hb with rfl | hb
              · obtain ⟨o, _, _, ho, _⟩ := G5.1
                rw [kb b o (off2 haL haD) ho]; rfl
              · rcases List.mem_cons.mp hb with rfl | hb
                · obtain ⟨o, _, _, ho, _⟩ := F8.ns
                  rw [ho]; rfl
                · rw [List.mem_singleton.mp hb, (N8 _ (.head _)).1]; rfl
          · rw [List.take_add_one, hjc, List.foldl_append, ← hq]; exact hq'
          · rw [List.mem_singleton.mp hp]; exact N8 _ (.head _)
        have hqb : q.2.2.length ≤ j := by
          have := (sStep_bound x ((escF 0 false x.cps.toList).take j) (0, none, [])).1
          rw [← hq, List.length_take] at this
          simp only [List.length_nil] at this
          omega
        clear hq P
        refine hide (fun PP hPP => ?_)
        refine wpAny_execs_cons (wpAny_If ?_)
        iterate 5 walk1
        dsimp only
        by_cases hc : c = ⟨#[34]⟩
        · rw [if_pos (by rw [hc]; rfl)]
          obtain ⟨st, op, res⟩ := q
          cases op with
          | none =>
            dsimp only [optV] at F7
            iterate 12 walk1
            refine stN F7 N7 fun h8 F8 N8 => ?_
            rw [mk_set] at F8
            (repeat refine wpAny_execs_nil ?_)
            refine hPP _ _ ?_
            refine fin ⟨h8, s2.gens, s2.drawn, _, s2.os⟩ (st, some pp, res) t1 u1 vs ep ?_ rfl rfl rfl hS F8 N8
            unfold sStep
            rw [if_pos hc]
          | some o =>
            dsimp only [optV] at F7
            iterate 16 walk1
            by_cases hso : st = o
            · rw [if_neg (by rw [hso]; simp)]
              iterate 7 walk1
              refine stN F7 N7 fun h8 F8 N8 => ?_
              iterate 3 walk1
              refine stN F8 N8 fun h9 F9 N9 => ?_
              rw [mk_set2] at F9
              (repeat refine wpAny_execs_nil ?_)
              refine hPP _ _ ?_
              refine fin ⟨h9, s2.gens, s2.drawn, _, s2.os⟩ (pp + 1, none, res) _ 0 vs ep ?_ rfl rfl rfl hS F9 N9
              unfold sStep
              rw [if_pos hc]
              show _ = (pp + 1, none, if st = o then res else _)
              rw [if_pos hso]
            · rw [if_pos (by simpa [bne_iff_ne] using fun e => hso (Int.ofNat.inj e))]
              iterate 17 walk1
              refine append_K (by assumption) (by assumption) (Upd.head (restL_ne (by simp))) (fun h8 F8 N8 => ?_) ?_
              · iterate 8 walk1
                refine stN F8 N8 fun h9 F9 N9 => ?_
                iterate 3 walk1
                refine stN F9 N9 fun h10 F10 N10 => ?_
                rw [mk_set2] at F10
                (repeat refine wpAny_execs_nil ?_)
                refine hPP _ _ ?_
                refine fin ⟨h10, s2.gens, s2.drawn, _, s2.os⟩ (pp + 1, none, res ++ [slc x st o]) _ 0 _ _ ?_ rfl rfl rfl ?_ F10 N10
                · unfold sStep
                  rw [if_pos hc]
                  show _ = (pp + 1, none, if st = o then res else _)
                  rw [if_neg hso]
                · rw [Array.toList_push]; exact strs_snoc hS
              · have h1 : vs.size = res.length := by simpa using hS.len_eq
                have h2 : res.length ≤ j := hqb
                rw [sizeLine_eq]
                omega
        · rw [if_neg (fun e => hc (eq_of_beq e))]
          refine wpAny_execs_nil (wpAny_execs_nil (hPP _ _ (fin _ q t1 t2 vs ep ?_ rfl rfl rfl hS F7 N7)))
          exact (if_neg hc).symm
      · obtain rfl : j = (escF 0 false x.cps.toList).length := by omega
        refine G.done hBh T.nolimit (by omega) fun s2 kb2 mv => ?_
        have F4 : Fr s.heap L s2.heap _ := fr_at F kb2 fun o e => (mv.own L (by simp)).trans e
        have N4 : News s.heap L s2.heap [(D, W.listOf vs ep)] := news_off N fun q hq e => (mv.own q.1 (by rw [List.mem_singleton.mp hq]; simp)).trans e
        have P4 : Gp s s2 := mv.gp P (Nat.le_refl _)
        rw [List.take_length] at hq
        have hqb := sStep_bound x (escF 0 false x.cps.toList) (0, none, [])
        rw [← hq] at hqb
        clear F N mv G P F3 N3 F2 N2
        refine wpAny_execs_nil ?_
        dsimp only
        refine wpAny_execs_cons (wpAny_If ?_)
        iterate 8 walk1
        have hxl : x.length = x.cps.size := rfl
        refine P.len_str (by omega) ?_
        iterate 2 walk1
        by_cases hst : q.1 < x.cps.size
        · rw [if_pos (by simpa [hxl] using hst)]
          iterate 17 walk1
          refine append_K (by assumption) (by assumption) (Upd.head (List.forall_mem_nil _)) (fun h8 F8 N8 => ?_) ?_
          · iterate 11 walk1
            refine join_listW (News.isList N8 (.head _)) (by rw [Array.toList_push]; exact strs_snoc hS) (by decide) ?_ fun t' k => ?_
            · rw [List.map_append, List.sum_append, List.length_append]
              show _ + ((Txt.slice x _ _).length + 0) + (_ + 1) ≤ _
              have h1 := sum_le q.2.2 x.length (hqb.2 (fun _ h => nomatch h))
              have h2 := Txt.slice_le x (some ((q.1 : Nat) : Int)) none
              have h3 : q.2.2.length ≤ 1000 := Nat.le_trans hqb.1 (by simpa using hil)
              have h4 : q.2.2.length * x.length ≤ 1000 * 1000 := Nat.mul_le_mul h3 (by omega)
              omega
            · have hE : strip x = Txt.join (Str.ofString "") (q.2.2 ++ [Txt.slice x (some (q.1 : Int)) none]) := by
                unfold strip
                rw [if_pos h34, ← hq]
                dsimp only
                rw [if_pos hst]
              have hz := hR ⟨h8, s2.gens, s2.drawn, k, s2.os⟩ t' (.of F8.keep (P4.trans (.eqs rfl rfl rfl)))
              rw [hE] at hz
              exact hz
          · have h1 : vs.size = q.2.2.length := by simpa using hS.len_eq
            have h3 : q.2.2.length ≤ 1000 := Nat.le_trans hqb.1 (by simpa using hil)
            rw [sizeLine_eq]
            omega
        · rw [if_neg (by simpa [hxl] using hst)]
          iterate 11 walk1
          refine join_listW (News.isList N4 (.head _)) hS (by decide) ?_ fun t' k => ?_
          · have h1 := sum_le q.2.2 x.length (hqb.2 (fun _ h => nomatch h))
            have h3 : q.2.2.length ≤ 1000 := Nat.le_trans hqb.1 (by simpa using hil)
            have h4 : q.2.2.length * x.length ≤ 1000 * 1000 := Nat.mul_le_mul h3 (by omega)
            omega
          · have hE : strip x = Txt.join (Str.ofString "") q.2.2 := by
              unfold strip
              rw [if_pos h34, ← hq]
              dsimp only
              rw [if_neg hst]
            have hz := hR ⟨s2.heap, s2.gens, s2.drawn, k, s2.os⟩ t' (.of kb2 (P4.trans (.eqs rfl rfl rfl)))
            rw [hE] at hz
            exact hz
  · rw [if_pos (by simpa using h34)]
    iterate 4 walk1
    have e : strip x = x := if_neg h34
    have := hR ⟨h₁, s.gens, s.drawn, tk, s.os⟩ t (.of F.keep (.eqs rfl rfl rfl))
    rw [e] at this
    exact this
end Mine
end
section
theorem Mine.walk_reset_C1 : True := by
  w_top off
  trivial
open PySem PySem.W PyProof.Rows
set_option maxRecDepth 100000
set_option maxHeartbeats 2000000
namespace Mine

def chkF : List (Nat × Str) → Int → Bool
  | [], n => n == 0
  | i :: r, n => if i.2 = ⟨#[40]⟩ then chkF r (n + 1) else if i.2 = ⟨#[41]⟩ then (if n - 1 < 0 then false else chkF r (n - 1)) else chkF r n
def check (x : Str) : Bool := chkF (escF 0 false (strip x).cps.toList) 0

theorem Gp.le {s s' : Shared} (a : Gp s s') : s.gens.size ≤ s'.gens.size := by
  rcases Nat.lt_or_ge s'.gens.size s.gens.size with h | h
  · have h1 := a.gens s'.gens.size _ (Array.getElem?_eq_getElem h)
    have h2 := (Array.getElem?_eq_some_iff.mp h1).1
    exact absurd h2 (Nat.lt_irrefl _)
  · exact h
theorem str_po : (Str.ofString "(") = ⟨#[40]⟩ := by decide
theorem str_pc : (Str.ofString ")") = ⟨#[41]⟩ := by decide
theorem check_call {prog : Program} {w : World} {A : Around} {s : Shared} {R : Result → Shared → Prop} {p : Program} {loose : List Str} {mean : ExcName → Option Value} {mg mb : Str → Option Value} {x : Str} {t : Tok}
    (X : (hd.heap_39 w.params).In s.heap) (T : Top p loose mean mg mb s.heap) (hx : x.cps.all (· < 128) = true) (hlen : x.cps.size ≤ 1000) (hy : (strip x).cps.all (· < 128) = true)
    (hdp : A.depth + 40 < recursionLimit) (hh : A.handled = none) (hu : A.units + 90 < cLine)
    (hR : ∀ s', Kp s s' → R (.ok (.ret (.bool (check x)))) s') :
    codeAny (model prog w) A (.call (.ref 42) ⟨[.str x t], []⟩) R s := by
  refine' enter (K := hd.heap_39 w.params) X T.nolimit ?k6 ?k7 (by omega) ?k9 ?kB ?_ ?c2 ?c3 ?c4 ?c5
  case k6 => k_is
  case k7 => k_is
  case k9 => exact BindsTo.of_eq rfl
  case kB => exact locs rfl
  case c2 => exact rfl
  case c3 => exact rfl
  case c4 => exact rfl
  case c5 => decide
  intro h₁ L hL F
  replace F : Fr s.heap L h₁ (mk [("addr", some (.str x t))]) := mk_arg1 _ _ ▸ F
  have N : News s.heap L h₁ [] := News.nil
  generalize hB : Around.deeper A _ = B
  have hBh : B.handled = none := by rw [← hB]; exact hh
  have hBd : B.depth = A.depth + 1 := by rw [← hB]; rfl
  have hBu : B.units = A.units + 3 := by rw [← hB]; rfl
  clear hB
  iterate 8 walk1
  refine ⟨X.keeps F.keep, wpAny_call (strip_call (X.keeps F.keep) (T.keeps F.keep) hx hlen (by omega) hBh (by omega) fun s1 t1 k1 => ?_)⟩
  have F1 := k1.fr F
  have N1 := k1.news N
  have P1 : Gp s s1 := (Gp.eqs (s := s) (s' := ⟨h₁, s.gens, s.drawn, _, s.os⟩) rfl rfl rfl).trans k1.gp
  clear F N k1
  dsimp only
  refine stN F1 N1 fun h2 F2 N2 => ?_
  rw [mk_set] at F2
  replace F2 : Fr s.heap L h2 (mk [("addr", some (.str (strip x) t1))]) := F2
  iterate 3 walk1
  refine stN F2 N2 fun h3 F3 N3 => ?_
  rw [mk_set] at F3
  rw [mk_pad _ "pos" rfl, mk_pad _ "ch" rfl] at F3
  obtain ⟨tk0, F3⟩ : ∃ tk0, Fr s.heap L h3 (mk [("addr", some (.str (strip x) t1)), ("opens", some (.int 0 tk0)), ("pos", none), ("ch", none)]) := ⟨_, F3⟩
  dsimp only
  refine wpAny_execs_cons (wpAny_For ?_)
  iterate 6 walk1
  refine ⟨X.keeps F3.keep, wpAny_call (gen_make (own := [L]) (A₁ := B) (h₀ := s.heap) X T F3.keep ?h1 ?h2 ?h3 hy ?h4 hBh ?h6 ?h7 ?_)⟩
  case h1 => have : L < h3.objs.size := F3.ns.lt; show s.heap.objs.size ≤ h3.objs.size; omega
  case h2 =>
    intro b hb
    rw [List.mem_singleton.mp hb]
    obtain ⟨o, _, _, ho, _⟩ := F3.ns
    show (h3.get? L).isSome = true
    rw [ho]; rfl
  case h3 =>
    intro b hb
    rw [List.mem_singleton.mp hb]
    exact above_none (by omega)
  case h4 => omega
  case h6 => omega
  case h7 => omega
  intro a s2 G kb1 ha1 hg1 hd1 ho1
  dsimp only at G kb1 ha1 hg1 hd1 ho1 ⊢
  have F4 := fr_off F3 fun b o e _ => kb1 b o e
  obtain ⟨gs, hgs, hg1⟩ := hg1
  have P2 : Gp s s2 := P1.trans (.pushed hgs hg1 hd1 ho1)
  have haL : a ≠ L := fun e => absurd (e ▸ ha1 : h3.objs.size ≤ L) (Nat.not_le.mpr F3.ns.lt)
  have hgl := P1.le
  refine wpAny_pyIter_gen G.1 ?_
  generalize hits : escF 0 false (strip x).cps.toList = its at G ⊢
  have hck : check x = chkF its 0 := by unfold check; rw [hits]
  rw [hck] at hR
  clear hits hck F3 F2 F1 N3 N2 N1
  refine codeAny_forLoopG (fun n s' => ∃ j op t2 pv cv, n = its.length + 1 - j ∧ j ≤ its.length ∧ GSt prog w B s.heap a s1.gens.size (a :: [L]) its j s' ∧ Gp s s' ∧
    chkF its 0 = chkF (its.drop j) op ∧
    Fr s.heap L s'.heap (mk [("addr", some (.str (strip x) t1)), ("opens", some (.int op t2)), ("pos", pv), ("ch", cv)])) ?_ (its.length + 1)
    ⟨0, _, _, _, _, rfl, Nat.zero_le _, G, P2, rfl, F4⟩
  rintro n s' ⟨j, op, t2, pv, cv, rfl, hj, G, P, hq, F⟩
  by_cases hlt : j < its.length
  · obtain ⟨⟨pp, c⟩, hjc⟩ : ∃ r, its[j]? = some r := ⟨_, List.getElem?_eq_getElem hlt⟩
    have hdr : its.drop j = (pp, c) :: its.drop (j + 1) := by
      obtain ⟨h1, h2⟩ := List.getElem?_eq_some_iff.mp hjc
      rw [← h2, ← List.drop_eq_getElem_cons]
    rw [hdr] at hq
    refine G.item hBh T.nolimit (by omega) hjc fun ta u1 u2 s2 G2 hta htao mv => ?_
    have F4 : Fr s.heap L s2.heap _ := fr_at F G2.2.2.1 fun o e => (mv.own L (by simp)).trans e
    have P4 : Gp s s2 := mv.gp P hgl
    refine letGo_gen G2.1 ?_
    refine wpAny_assign_Tuple hBh ⟨_, hta, rfl, _, rfl⟩ rfl rfl fun h5 hx5 => ?_
    have kx : ∀ b o, s2.heap.get? b = some o → h5.get? b = some o := fun b o e => hx5 b o (Nat.ne_of_lt (Heap.lt_size e)) e
    have F5 := fr_off F4 fun b o e _ => kx b o e
    have G5 : GSt prog w B s.heap a s1.gens.size (a :: [L]) its (j + 1) ⟨h5, s2.gens, s2.drawn, s2.toks, s2.os⟩ := G2.frame F5.keep (get_keep kx G2.2.2.2.1 G2.2.1) (fun b o _ e => kx b o e) (live_keep kx G2.2.2.2.1) rfl
    have N6 : News s.heap L h5 (restL s.heap h5 [L]) := restL_news (by simp)
    clear F4 F kx hx5 hta mv
    refine wpAny_assignInOrder_more (wpAny_assign_Name (stN F5 N6 fun h6 F6 N6 => ?_))
    refine wpAny_assignInOrder_more (wpAny_assign_Name (stN F6 N6 fun h7 F7 N7 => ?_))
    refine wpAny_assignInOrder_none ?_
    rw [mk_set2] at F7
    replace F7 : Fr s.heap L h7 (mk [("addr", some (.str (strip x) t1)), ("opens", some (.int op t2)), ("pos", some (.int pp u1)), ("ch", some (.str c u2))]) := F7
    clear F6 N6 F5
    dsimp only
    have fin : ∀ (s3 : Shared) (op' : Int) (v1 : Tok), chkF ((pp, c) :: its.drop (j + 1)) op = chkF (its.drop (j + 1)) op' → s3.gens = s2.gens → s3.drawn = s2.drawn → s3.os = s2.os →
        Fr s.heap L s3.heap (mk [("addr", some (.str (strip x) t1)), ("opens", some (.int op' v1)), ("pos", some (.int pp u1)), ("ch", some (.str c u2))]) →
        News s.heap L s3.heap (restL s.heap h5 [L]) → ∃ m, m < its.length + 1 - j ∧ ∃ j op t2 pv cv, m = its.length + 1 - j ∧ j ≤ its.length ∧ GSt prog w B s.heap a s1.gens.size (a :: [L]) its j s3 ∧ Gp s s3 ∧
        chkF its 0 = chkF (its.drop j) op ∧
        Fr s.heap L s3.heap (mk [("addr", some (.str (strip x) t1)), ("opens", some (.int op t2)), ("pos", pv), ("ch", cv)]) := by
      intro s3 op' v1 hq' e1 e2 e3 F8 N8
      have kb := restL_back G5.2.2.1 F8.keep N8
      have haL' : a ∉ ([L] : List Addr) := fun h => haL (List.mem_singleton.mp h)
      refine ⟨_, by omega, j + 1, op', v1, _, _, rfl, hlt, ?_, P4.trans (.eqs e1 e2 e3), hq.trans hq', F8⟩
      refine G5.frame F8.keep ?_ (fun b o hb e => kb b o (fun h => hb (.tail _ h)) e) ?_ (by rw [e1])
      · obtain ⟨o, _, _, ho, _⟩ := G5.1
        rw [ho]; exact kb a o haL' ho
      · intro b hb
        rcases List.mem_cons.mp hb with rfl | hb
        · obtain ⟨o, _, _, ho, _⟩ := G5.1
          rw [kb b o haL' ho]; rfl
        · rw [List.mem_singleton.mp hb]
          obtain ⟨o, _, _, ho, _⟩ := F8.ns
          rw [ho]; rfl
    clear P G
    refine wpAny_execs_cons (wpAny_If ?_)
    iterate 5 walk1
    dsimp only
    by_cases hc : c = ⟨#[40]⟩
    · rw [if_pos (by rw [hc]; rfl)]
      iterate 6 walk1
      refine stN F7 N7 fun h8 F8 N8 => ?_
      rw [mk_set] at F8
      (repeat refine wpAny_execs_nil ?_)
      refine fin ⟨h8, s2.gens, s2.drawn, _, s2.os⟩ (op + 1) _ ?_ rfl rfl rfl F8 N8
      exact if_pos hc
    · rw [if_neg (by rw [str_po]; exact fun e => hc (eq_of_beq e))]
      iterate 8 walk1
      by_cases hc2 : c = ⟨#[41]⟩
      · rw [if_pos (by rw [hc2]; rfl)]
        iterate 6 walk1
        refine stN F7 N7 fun h8 F8 N8 => ?_
        rw [mk_set] at F8
        obtain ⟨tk1, F8⟩ : ∃ tk1, Fr s.heap L h8 (mk [("addr", some (.str (strip x) t1)), ("opens", some (.int (op - 1) tk1)), ("pos", some (.int pp u1)), ("ch", some (.str c u2))]) := ⟨_, F8⟩
        iterate 7 walk1
        by_cases hop : op - 1 < 0
        · rw [if_pos (by simpa using hop)]
          iterate 4 walk1
          have hE : chkF its 0 = false := by
            rw [hq]
            show (if c = ⟨#[40]⟩ then _ else if c = ⟨#[41]⟩ then _ else _) = _
            rw [if_neg hc, if_pos hc2, if_pos hop]
          have hz := hR ⟨h8, s2.gens, s2.drawn, tk, s2.os⟩ (.of F8.keep (P4.trans (.eqs rfl rfl rfl)))
          rw [hE] at hz
          exact hz
        · rw [if_neg (by simpa using hop)]
          (repeat refine wpAny_execs_nil ?_)
          refine fin ⟨h8, s2.gens, s2.drawn, _, s2.os⟩ (op - 1) _ ?_ rfl rfl rfl F8 N8
          show (if c = ⟨#[40]⟩ then _ else if c = ⟨#[41]⟩ then _ else _) = _
          rw [if_neg hc, if_pos hc2, if_neg hop]
      · rw [if_neg (by rw [str_pc]; exact fun e => hc2 (eq_of_beq e))]
        (repeat refine wpAny_execs_nil ?_)
        refine fin ⟨h7, s2.gens, s2.drawn, _, s2.os⟩ op _ ?_ rfl rfl rfl F7 N7
        show (if c = ⟨#[40]⟩ then _ else if c = ⟨#[41]⟩ then _ else _) = _
        rw [if_neg hc, if_neg hc2]
  · obtain rfl : j = its.length := by omega
    refine G.done hBh T.nolimit (by omega) fun s2 kb2 mv => ?_
    have F4 : Fr s.heap L s2.heap _ := fr_at F kb2 fun o e => (mv.own L (by simp)).trans e
    have P4 : Gp s s2 := mv.gp P hgl
    have N4 : News s.heap L s2.heap [] := News.nil
    rw [List.drop_length] at hq
    clear F mv G P
    refine wpAny_execs_nil ?_
    dsimp only
    iterate 6 walk1
    have hE : chkF its 0 = (op == 0) := hq
    have hz := hR ⟨s2.heap, s2.gens, s2.drawn, s2.toks + 1, s2.os⟩ (.of kb2 (P4.trans (.eqs rfl rfl rfl)))
    rw [hE] at hz
    exact hz
end Mine
end
section
theorem Mine.walk_reset_L1 : True := by
  w_top off
  trivial
open PySem PySem.W PyProof.Rows
set_option maxRecDepth 100000
set_option maxHeartbeats 2000000
namespace Mine

theorem enterC {prog : Program} {w : World} {A : Around} {s : Shared} {K : Frag} {R : Result → Shared → Prop} {name qual : Str} {params : Arguments} {body : List Stmt} {scope : Scope} {dV kV doc pm cdv ct oc : Value} {an od : Option Addr} {osl : Array (Option Value)} {f : Addr} {args : Args} {binds : List (Str × Value)}
    (X : K.In s.heap) (hlim : s.heap.NoLimit)
    (ho : K.lookup f = some ⟨oc, od, .func (fnOf name qual params body scope dV kV doc pm an cdv ct), osl⟩) (hcd : codeIn K cdv qual = true) (hroom : A.depth < recursionLimit)
    (hbind : BindsTo s (fnOf name qual params body scope dV kV doc pm an cdv ct) args binds) (hkind : (binds.all fun y => scope.names.lookup y.1 == some .local || scope.names.lookup y.1 == some .cell) = true)
    (hnd : ((cellsFrom 0 scope.names []).map (·.1)).Nodup)
    (h : ∀ (h₁ : Heap) (L : Nat) (tk : Nat) cells, L = s.heap.objs.size → Fr s.heap L h₁ (bindL (envOfC qual scope L f cdv).kindOf binds fun _ => none) → News s.heap L h₁ cells →
      CellsAre (bindC (envOfC qual scope L f cdv).kindOf binds fun _ => none) (cellsFrom (L + 1) scope.names []) cells →
      wpAny (model prog w) (A.deeper (envOfC qual scope L f cdv)) (execs body (envOfC qual scope L f cdv))
        (fun fl s' => R (.ok (.ret (match fl with | .ret v => v | _ => .none))) s')
        (fun _ _ => False)
        { s with heap := h₁, toks := tk })
    (hco : scope.isCoroutine = false) (hgen : scope.isGenerator = false) (hk : scope.kind = .function) : codeAny (model prog w) A (.call (.ref f) args) R s := by
  refine codeAny_call_function hroom (X _ _ ho) rfl hco hgen rfl (codeRec_of X hcd) ?_
  refine hbind _ _ _ _ (wpAny_newFunctionEnv_cells hk (kindsX hkind _) fun env' he s' x => ?_)
  subst he
  refine ⟨hlim.keeps x.toInCall.keep, codeAny_func ?_⟩
  obtain ⟨h₁, tk, rfl, _⟩ := x.done
  have hk₁ := x.toInCall.keep
  obtain ⟨cells, NC, Y⟩ := Cl.news (h₀ := s.heap) (Nat.le_refl _) fun n c hm => ⟨x.cell n c (lookup_of_mem_nodup (cellsFrom_names scope.names 0 (s.heap.objs.size + 1) [] [] rfl ▸ hnd) hm), x.above n c hm⟩
  exact wpAny_mono (h h₁ s.heap.objs.size tk cells rfl ⟨x.toInCall.ns, fun b o e => hk₁ b o e, Nat.le_refl _⟩ NC Y) (fun _ _ x => x) fun _ _ x => x.elim

theorem keeps_refl (s : Shared) : Keeps s s := ⟨s.heap, s.toks, rfl, fun _ _ e => e⟩
theorem keeps_of {s : Shared} {h' : Heap} {tk : Nat} (k : ∀ b o, s.heap.get? b = some o → h'.get? b = some o) : Keeps s { s with heap := h', toks := tk } := ⟨h', tk, rfl, k⟩
theorem keeps_toks {s : Shared} {tk : Nat} : Keeps s { s with toks := tk } := ⟨s.heap, tk, rfl, fun _ _ e => e⟩
theorem item_list {prog : Program} {w : World} {A : Around} {E : Value → Shared → Prop} {s : Shared} {value slice : PySem.Expr} {l : Addr} {vs : List Value} {k : Int} {u : Tok} {v : Value} {Q : Value → Shared → Prop}
    (hl : s.heap.IsList l vs.toArray) (h0 : 0 ≤ k) (hhi : k < 2 ^ 63) (hx : vs[k.toNat]? = some v) (h : Q v s)
    (hs : subscripted slice false (.ref l) (.int k u) = operate [.ref l, .int k u] (getItem (.ref l) (.int k u)) := by with_unfolding_all rfl) :
    wpAny (model prog w) A (subscriptTail value slice (.ref l) (.int k u)) Q E s :=
  tail_any hl.typeIs slot_list_getitem.lookup (wpAny_getItem_list hl h0 hhi (by simpa using hx) h) hs

theorem bounded {prog : Program} {w : World} {A : Around} {I : Addr} {fp wr : List Addr} {n : Nat} {P : Nat → Value → Prop} {St : Nat → Heap → Prop} (W : Walks prog w A I fp wr n P St) : Walks prog w A I fp wr n (fun i v => i < n ∧ P i v) St where
  sub := W.sub
  frame := W.frame
  item := fun i s Q E hi st hQ => W.item i s Q E hi st fun v h' tk hP => hQ v h' tk ⟨hi, hP⟩
  done := W.done
  self := W.self
theorem small_of {a b : Int} (h1 : -10000 ≤ a) (h2 : a ≤ 10000) (h3 : -10000 ≤ b) (h4 : b ≤ 10000) : Builtin.Range.small a b 1 = true := small_one (by omega) (by omega) (by omega) (by omega)
theorem push_one {h : Heap} {o : Obj} : ∀ b ∈ ([h.objs.size] : List Addr), b < (h.push o).objs.size := by
  intro b hb
  rw [List.mem_singleton.mp hb, Heap.size_push]; exact Nat.lt_succ_self _
theorem iter_start {h : Heap} {a b : Int} {n : Nat} (e : b - a = n) : IsRangeIter (h.push { cls := .type "range_iterator", data := .fields #[rawInt a, rawInt (Builtin.Range.rangeSize a b 1), rawInt 1] }) h.objs.size (a + ((0 : Nat) : Int) * 1) (n - ((0 : Nat) : Int)) 1 := by
  have e1 : Builtin.Range.rangeSize a b 1 = n := by rw [rangeSize_nat]; omega
  unfold IsRangeIter
  rw [Heap.get?_push_size _ rfl, e1, show a + ((0 : Nat) : Int) * 1 = a by omega, show (n : Int) - ((0 : Nat) : Int) = n by omega]
theorem push_back {h h' : Heap} {o : Obj} (hk : ∀ b o', b ∉ ([h.objs.size] : List Addr) → (h.push o).get? b = some o' → h'.get? b = some o') : ∀ b o', h.get? b = some o' → h'.get? b = some o' := fun b o' e => hk b o' (fun hm => by
  rw [List.mem_singleton.mp hm] at e
  exact Nat.lt_irrefl _ (Heap.lt_size e)) (Heap.get?_push_of_some _ e)

theorem same_call {prog : Program} {w : World} {A : Around} {s : Shared} {R : Result → Shared → Prop} {p : Program} {loose : List Str} {mean : ExcName → Option Value} {mg mb : Str → Option Value} {a b : Addr} {vs : List Value}
    (X : (hd.heap_39 w.params).In s.heap) (T : Top p loose mean mg mb s.heap) (ha : s.heap.IsList a vs.toArray) (hb : s.heap.IsList b vs.toArray) (hlen : vs.length ≤ 1000) (hrefs : ∀ v ∈ vs, ∃ z, v = .ref z)
    (hdp : A.depth + 40 < recursionLimit) (hh : A.handled = none) (hu : A.units + 90 < cLine)
    (hR : ∀ s', Kp s s' → R (.ok (.ret (.bool true))) s') :
    codeAny (model prog w) A (.call (.ref 68) ⟨[.ref a, .ref b], []⟩) R s := by
  refine' enterC (K := hd.heap_39 w.params) X T.nolimit ?k6 ?k7 (by omega) ?k9 ?kB ?kD ?_ ?c2 ?c3 ?c4
  case k6 => k_is
  case k7 => k_is
  case k9 => exact BindsTo.of_eq rfl
  case kB => exact rfl
  case kD => decide +kernel
  case c2 => exact rfl
  case c3 => exact rfl
  case c4 => exact rfl
  intro h₁ L tk cells hL F N Y
  k_cells Y
  skip
  generalize hB : Around.deeper A _ = B
  have hBh : B.handled = none := by rw [← hB]; exact hh
  have hBd : B.depth = A.depth + 1 := by rw [← hB]; rfl
  have hBu : B.units = A.units + 3 := by rw [← hB]; rfl
  clear hB
  rename_i oD oT dD dT
  have Ctold : h₁.IsCell (L + 1) (some (.ref a)) := ⟨_, (N _ (.tail _ (.head _))).1, dT.trans rfl⟩
  have Cdue : h₁.IsCell (L + 1 + 1) (some (.ref b)) := ⟨_, (N _ (.head _)).1, dD.trans rfl⟩
  have La : h₁.IsList a vs.toArray := ha.at fun o e => F.keep _ _ e
  have Lb : h₁.IsList b vs.toArray := hb.at fun o e => F.keep _ _ e
  have hfit : ((vs.toArray.size : Nat) : Int) < 2 ^ 63 := by rw [List.size_toArray]; omega
  have F0 : ∃ m, Fr s.heap L h₁ m := ⟨_, F⟩
  iterate 10 walk1
  refine len_list La hfit ?_
  iterate 6 walk1
  refine len_list Lb hfit ?_
  iterate 8 walk1
  refine wpAny_ListComp_free (p := fun _ => true) (F := fun v y => y = .bool true) rfl (by decide) rfl (by decide) (by decide) ?_
  iterate 10 walk1
  refine len_list Lb hfit ?_
  iterate 2 walk1
  rename_i hk2
  refine wpAny_pyIter_range (by assumption) (small_of (by decide) (by decide) (by omega) (by rw [List.size_toArray]; omega)) ?_
  refine ⟨_, _, _, vs.length, _, _, rfl, bounded (Walks.range hBh _ 0 1 vs.length), by rw [sizeLine_eq]; omega, iter_start (by rw [List.size_toArray]; omega), push_one, ⟨?tests, ?elt⟩, ?fin⟩
  case tests =>
    intro C i v s₃ m₃ E' hC hP hns hm hk htk
    exact wpAny_tests_nil ⟨rfl, keeps_refl _⟩
  case elt =>
    intro C i v s₃ m₃ E' hC hP _ hns hm hk htk
    obtain ⟨hiv, ti, rfl⟩ := hP
    iterate 2 walk1
    have kk : ∀ b o, h₁.get? b = some o → s₃.heap.get? b = some o := fun b o e => push_back hk b o (by first | exact hk2 b o e | exact e)
    have hat : vs[(0 + (i : Int) * 1).toNat]? = some vs[i] := by
      rw [show (0 + (i : Int) * 1).toNat = i by omega]; exact List.getElem?_eq_getElem hiv
    refine wpAny_Name (wpAny_loadName_cell rfl rfl rfl (Ctold.keeps kk) ?_)
    refine wpAny_Name (wpAny_loadName_local rfl rfl hns hm ?_)
    refine item_list (La.at fun o e => kk _ _ e) (by omega) (by omega) hat ?_
    iterate 1 walk1
    refine wpAny_Name (wpAny_loadName_cell rfl rfl rfl (Cdue.keeps kk) ?_)
    refine wpAny_Name (wpAny_loadName_local rfl rfl hns hm ?_)
    refine item_list (Lb.at fun o e => kk _ _ e) (by omega) (by omega) hat ?_
    obtain ⟨z, hz⟩ := hrefs _ (List.getElem_mem hiv)
    rw [hz]
    exact wpAny_is_ref_self ⟨rfl, keeps_refl _⟩
  case fin =>
    intro D h' tk' ys vs' hD hl hpl hlen' hj hPa hk
    iterate 1 walk1
    have hb9 : LSm.BoolsAre ys.toList (List.replicate vs'.length true) := by
      have h0 : vs'.filter (fun _ => true) = vs' := List.filter_eq_self.mpr fun _ _ => rfl
      rw [h0] at hPa
      clear hk hj hlen' hl hpl h0
      generalize ys.toList = l at hPa
      induction hPa with
      | nil => exact .nil
      | cons h _ ih => subst h; exact .cons _ ih
    have k9 : ∀ b o, h₁.get? b = some o → h'.get? b = some o := fun b o e => push_back hk b o (by first | exact hk2 b o e | exact e)
    obtain ⟨m0, F0⟩ := F0
    refine LSm.all_bools (F := fr_off F0 fun b o e _ => k9 b o e) (N := (News.nil : News s.heap L h' [])) hBh (vs := ys.toList) (by simpa using hl) hb9 fun h'' tk'' F'' N'' => ?_
    have hz := hR ⟨h'', s.gens, s.drawn, tk'', s.os⟩ (.of F''.keep (.eqs rfl rfl rfl))
    have ht : (List.replicate vs'.length true).all id = true := by simp
    rw [ht]
    exact hz
  · rename_i hne
    exact absurd rfl hne
end Mine
end
section
theorem Mine.walk_reset_R1 : True := by
  w_top off
  trivial
open PySem PySem.W PyProof.Rows PySem.MeetsSeq
set_option maxRecDepth 100000
set_option maxHeartbeats 2000000
namespace Mine
/-- the things' equality at a heap -/
def EqAt (prog : Program) (w : World) (P : Heap → Prop) (y x : Value) (b : Bool) : Prop :=
  ∀ (A : Around) (E : Value → Shared → Prop) (s : Shared) (Q : Bool → Shared → Prop), P s.heap → A.units + 66 < cLine → Q b s → wpAny (model prog w) A (eqBool y x) Q E s

theorem rem_loop {prog : Program} {w : World} (P : Heap → Prop) (l : Addr) (items : Array Value) (n : Nat) (x : Value) (e : Value → Bool) (he : ∀ y, y ∈ items → EqAt prog w P y x (e y)) (j : Nat) (hj : j < items.size) (hit : e items[j] = true) (k : Nat) (hs1 : items.size ≤ sizeLine) :
    ∀ i : Nat, j - i = k → i ≤ j → (∀ m (hm : m < items.size), i ≤ m → m < j → e items[m] = false) → MeetsIn prog w (Builtin.«list.remove.loop» ⟨[.ref l, x, rawInt i], []⟩)
      (fun A R s => P s.heap ∧ A.units + 68 < cLine ∧ s.heap.get? l = some { cls := .type "list", dict := none, data := .seq items n, slots := #[] } ∧ R (.ok (.ret .none)) { s with heap := s.heap.update l (Obj.mapSeq fun xs => xs.eraseIdxIfInBounds j) }) := by
  induction k with
  | zero =>
    intro i hk hij hno A R s h
    obtain ⟨hp, g, d, tk, os⟩ := s; obtain ⟨hP, hu, hl, h⟩ := h
    have hij' : i = j := by omega
    subst hij'
    wp_walk using wpAny_loadPart' hl
    have hi : items[((i : Nat) : Int).toNat]? = some items[i] := by simp [hj]
    rw [hi]
    refine wpAny_bind (he _ (Array.getElem_mem hj) _ _ _ _ hP (by show A.units + 1 + 66 < cLine; omega) ?_)
    rw [hit]
    have hz' : (items.eraseIdxIfInBounds i).size ≤ sizeLine + 1 := Nat.le_trans (size_erased items _) (Nat.le_succ_of_le hs1)
    wp_walk using (wpAny_updateSeq hl rfl (hz := hs1) (_hz' := hz')), wpAny_loadPart' hl
    simpa using h
  | succ k ih =>
    intro i hk hij hno A R s h
    obtain ⟨hp, g, d, tk, os⟩ := s; obtain ⟨hP, hu, hl, h⟩ := h
    have hlt : i < items.size := by omega
    wp_walk using wpAny_loadPart' hl
    have hi : items[((i : Nat) : Int).toNat]? = some items[i] := by simp [hlt]
    have hc : ((i : Int) + 1) = ((i + 1 : Nat) : Int) := by push_cast; rfl
    rw [hi]
    refine wpAny_bind (he _ (Array.getElem_mem hlt) _ _ _ _ hP (by show A.units + 1 + 66 < cLine; omega) ?_)
    rw [hno i hlt (Nat.le_refl _) (by omega)]
    wp_walk
    rw [hc]
    exact ⟨plainId_quiet plain_remove_loop _, codeAny_builtin entry_remove_loop (by
      rw [Around.under_plainId plain_remove_loop _]
      exact ih (i + 1) (by omega) (by omega) (fun m hm h1 h2 => hno m hm (by omega) h2) A R _ ⟨hP, hu, hl, h⟩)⟩

theorem rem_hit {prog : Program} {w : World} (P : Heap → Prop) (l : Addr) (items : Array Value) (n : Nat) (x : Value) (e : Value → Bool) (he : ∀ y, y ∈ items → EqAt prog w P y x (e y)) (j : Nat) (hj : j < items.size)
    (hit : e items[j] = true) (hno : ∀ m (hm : m < items.size), m < j → e items[m] = false) (hs1 : items.size ≤ sizeLine) :
    MeetsIn prog w (Builtin.«list.remove» ⟨[.ref l, x], []⟩)
      (fun A R s => P s.heap ∧ A.units + 70 < cLine ∧ s.heap.get? l = some { cls := .type "list", dict := none, data := .seq items n, slots := #[] } ∧ R (.ok (.ret .none)) { s with heap := s.heap.update l (Obj.mapSeq fun xs => xs.eraseIdxIfInBounds j) }) := by
  intro A R s h
  obtain ⟨hp, g, d, tk, os⟩ := s; obtain ⟨hP, hu, hl, h⟩ := h
  wp_walk using wpAny_loadPart' hl
  exact ⟨plainId_quiet plain_remove_loop _, codeAny_builtin entry_remove_loop (by
    rw [Around.under_plainId plain_remove_loop _]
    exact rem_loop P l items n x e he j hj hit _ hs1 0 rfl (Nat.zero_le _) (fun m hm _ h2 => hno m hm h2) A R _ ⟨hP, by omega, hl, h⟩)⟩

theorem rem_none_loop {prog : Program} {w : World} (P : Heap → Prop) (l : Addr) (items : Array Value) (n : Nat) (x : Value) (e : Value → Bool) (he : ∀ y, y ∈ items → EqAt prog w P y x (e y)) (hno : ∀ m (hm : m < items.size), e items[m] = false) (k : Nat) :
    ∀ i : Nat, items.size - i = k → MeetsIn prog w (Builtin.«list.remove.loop» ⟨[.ref l, x, rawInt i], []⟩)
      (fun A R s => P s.heap ∧ A.units + 68 < cLine ∧ s.heap.get? l = some { cls := .type "list", dict := none, data := .seq items n, slots := #[] } ∧ raisesNew "ValueError" A R s) := by
  induction k with
  | zero =>
    intro i hk A R s h
    obtain ⟨hp, g, d, tk, os⟩ := s; obtain ⟨hP, hu, hl, h⟩ := h
    wp_walk using wpAny_loadPart' hl
    have hi : items[((i : Nat) : Int).toNat]? = none := by simp; omega
    rw [hi]
    wp_walk
    exact_raiseError plainExc_ValueError h.1 h.2
  | succ k ih =>
    intro i hk A R s h
    obtain ⟨hp, g, d, tk, os⟩ := s; obtain ⟨hP, hu, hl, h⟩ := h
    have hlt : i < items.size := by omega
    wp_walk using wpAny_loadPart' hl
    have hi : items[((i : Nat) : Int).toNat]? = some items[i] := by simp [hlt]
    have hc : ((i : Int) + 1) = ((i + 1 : Nat) : Int) := by push_cast; rfl
    rw [hi]
    refine wpAny_bind (he _ (Array.getElem_mem hlt) _ _ _ _ hP (by show A.units + 1 + 66 < cLine; omega) ?_)
    rw [hno i hlt]
    wp_walk
    rw [hc]
    exact ⟨plainId_quiet plain_remove_loop _, codeAny_builtin entry_remove_loop (by
      rw [Around.under_plainId plain_remove_loop _]
      exact ih (i + 1) (by omega) A R _ ⟨hP, hu, hl, h⟩)⟩

theorem rem_none {prog : Program} {w : World} (P : Heap → Prop) (l : Addr) (items : Array Value) (n : Nat) (x : Value) (e : Value → Bool) (he : ∀ y, y ∈ items → EqAt prog w P y x (e y)) (hno : ∀ m (hm : m < items.size), e items[m] = false) :
    MeetsIn prog w (Builtin.«list.remove» ⟨[.ref l, x], []⟩)
      (fun A R s => P s.heap ∧ A.units + 70 < cLine ∧ s.heap.get? l = some { cls := .type "list", dict := none, data := .seq items n, slots := #[] } ∧ raisesNew "ValueError" A R s) := by
  intro A R s h
  obtain ⟨hp, g, d, tk, os⟩ := s; obtain ⟨hP, hu, hl, h⟩ := h
  wp_walk using wpAny_loadPart' hl
  exact ⟨plainId_quiet plain_remove_loop _, codeAny_builtin entry_remove_loop (by
    rw [Around.under_plainId plain_remove_loop _]
    exact rem_none_loop P l items n x e he hno _ 0 rfl A R _ ⟨hP, by omega, hl, h⟩)⟩

/-- a list of one small number stands there -/
def ThingAt (h : Heap) (a : Addr) (k : Int) : Prop := ∃ t, h.IsList a [Value.int k t].toArray
theorem ThingAt.keeps {h h' : Heap} {a : Addr} {k : Int} (x : ThingAt h a k) (hk : ∀ o, h.get? a = some o → h'.get? a = some o) : ThingAt h' a k := let ⟨t, z⟩ := x; ⟨t, z.at hk⟩
theorem eq_things {prog : Program} {w : World} (P : Heap → Prop) {a b : Addr} {i j : Int} (hP : ∀ h, P h → ThingAt h a i ∧ ThingAt h b j) : EqAt prog w P (.ref a) (.ref b) (decide (i = j)) := by
  intro A E s Q hp hu h
  obtain ⟨⟨t, ha⟩, ⟨u, hb⟩⟩ := hP _ hp
  unfold eqBool
  try with_reducible refine wpAny_holding ?_
  show wpAny _ _ (if (Value.ref a == Value.ref b) = true then _ else _) Q E s
  by_cases hab : (Value.ref a == Value.ref b) = true
  · rw [if_pos hab]
    have e : a = b := by have := eq_of_beq hab; injection this
    subst e
    have hij : i = j := by
      obtain ⟨o, ho, _, n, hd⟩ := ha
      obtain ⟨o', ho', _, n', hd'⟩ := hb
      rw [ho] at ho'; cases ho'
      rw [hd] at hd'
      simpa using congrArg (fun d => match d with | Data.seq xs _ => xs.toList | _ => []) hd' |> fun z => (by injection z with z1 z2; injection z1)
    refine wpAny_bind (wpAny_rule (wpAny_pure (by simpa [hij] using h)))
  · rw [if_neg hab]
    refine wpAny_bind ?_
    exact eq_intsK (vs := [.int i t]) (us := [.int j u]) (ns := [i]) (ms := [j]) ha (.cons _ _ .nil) hb (.cons _ _ .nil) (by omega) (by
      refine wpAny_truthy_bool ?_
      simpa using h)
end Mine
end
section
theorem Mine.walk_reset_R2 : True := by
  w_top off
  trivial
open PySem PySem.W PyProof.Rows PySem.Calls
set_option maxRecDepth 100000
set_option maxHeartbeats 2000000
namespace Mine
/-- all kept; of the frames all but the slots -/
structure Fk (fs : List Addr) (h h' : Heap) : Prop where
  keep : ∀ b o, b ∉ fs → h.get? b = some o → h'.get? b = some o
  slots : ∀ b o, b ∈ fs → h.get? b = some o → ∃ sl, h'.get? b = some { o with slots := sl }
section
variable {prog : Program} {w : World} {A₀ : Around} {E : Value → Shared → Prop} {s' : Shared} {h₀ h : Heap} {L LO a e : Addr} {m : Str → Option Value} {name : Str} {scope : Scope} {cd : Value} {eo : Env} {oO : Obj}
  {b₀ : Stmt} {suite : List Stmt} {pos np : Pos} {rest : List ExceptHandler} {Q : Flow → Shared → Prop}
  {p : Program} {loose : List Str} {mg mb : Str → Option Value} {x : Str} {X T' : String}
theorem caught_D (hfr : A₀.frames = some [eo]) (hko : eo.scope.kind ≠ .module) (hfo : eo.frame = some LO) (hO : h.get? LO = some oO) (hOd : ∀ vs, oO.data ≠ .fields vs) (h0O : h₀.get? LO = none)
    (F : Fr h₀ L h m) (hx : Heap.NewExc h s'.heap e X)
    (T : TopRead p loose mg mb h₀) (hv : bootBuiltins x = some (.type T'))
    (hexc : isSubtype (.type T') (.type "BaseException") = pure true) (hnt : isSubtype (.type ((Manifest.find? T').elim "type" fun y => y.metatype)) (.type "tuple") = pure false) (hsub : isSubtype (.type X) (.type T') = pure true)
    (k : ∀ h', Fk [L, LO] h h' →
      wpAny (model prog w) ((A₀.deeper (envOf name scope L a cd)).mark (some (.ref e))) (execs (b₀ :: suite) (envOf name scope L a cd)) Q E { s' with heap := h' })
    (hmiss : mg x = none) (hn : x ≠ "__name__" := by decide +kernel)
    (hk : scope.kind = .function := by rfl) (hxk : (envOf name scope L a cd).kindOf x = some .globalImplicit := by rfl) (hd : (x == ("__debug__" : Str)) = false := by decide)
    (hE : PassesOwnAt (model prog w) ((A₀.deeper (envOf name scope L a cd)).mark (some (.ref e))) (A₀.deeper (envOf name scope L a cd)) (envOf name scope L a cd) E := by passes_own) :
    wpAny (model prog w) (A₀.deeper (envOf name scope L a cd)) (noteFrame (.ref e) (envOf name scope L a cd))
      (fun _ s₂ => wpAny (model prog w) (A₀.deeper (envOf name scope L a cd)) (setFlight (.ref e) none) (fun _ s₃ =>
        wpAny (model prog w) (A₀.deeper (envOf name scope L a cd)) (handleBy (.ref e) (envOf name scope L a cd) (.ExceptHandler (some (.Name x np)) none (b₀ :: suite) pos :: rest)) Q E s₃) E s₂) E s' := by
  obtain ⟨ob, tp, he, hcls, hdd⟩ := hx.there
  obtain ⟨oL, esL, epL, hL, hLd, hLk, hLf⟩ := F.ns
  have hbL : (hideAll h [L, LO]).get? L = none := hideAll_none _ (.head _)
  have hbO : (hideAll h [L, LO]).get? LO = none := hideAll_none _ (.tail _ (.head _))
  have hen : (hideAll h [L, LO]).get? e = none := by
    cases q : (hideAll h [L, LO]).get? e with
    | none => rfl
    | some o => have := of_hideAll _ q; rw [hx.new] at this; cases this
  have hfun : Heap.FunFrames s'.heap (hideAll h [L, LO]) [envOf name scope L a cd, eo] :=
    ⟨by show scope.kind ≠ .module; rw [hk]; decide, ⟨L, oL, rfl, hbL, hx.keeps _ _ hL, fun vs q => by rw [hLd] at q; cases q⟩, hko, ⟨LO, oO, hfo, hbO, hx.keeps _ _ hO, hOd⟩, trivial⟩
  have hfr' : (A₀.deeper (envOf name scope L a cd)).frames = some [envOf name scope L a cd, eo] := Around.frames_deeper hfr
  have toF : ∀ g : Heap, (hideAll h [L, LO]).StaysIn g → h.UpToSlots g → Fr h₀ L g m := fun g st up =>
    ⟨up.ns F.ns, fun b o hb => st b o (hideAll_get _ (F.keep b o hb) fun hm => by
      rcases List.mem_cons.mp hm with rfl | hm
      · exact Nat.lt_irrefl _ (Nat.lt_of_lt_of_le (Heap.lt_size hb) F.above)
      · rw [List.mem_singleton.mp hm, h0O] at hb; cases hb), F.above⟩
  refine wpAny_mono (Q := fun _ s₂ => ∃ h₄, s₂ = { s' with heap := h₄ } ∧ Heap.HeldW (hideAll h [L, LO]) [envOf name scope L a cd, eo] e (.type X) tp L h₄ ∧ s'.heap.UpToSlots h₄) (E := E) ?_ ?_ (fun _ _ z => z)
  · unfold noteFrame
    simp only [show (envOf name scope L a cd).frame = some L from rfl]
    refine wpAny_bind (wpAny_field (x := .none) he hdd rfl ?_)
    rw [if_neg (show ¬ ((Value.none != Value.none) = true) from by decide)]
    refine wpAny_entryW hfr' hfun rfl he (fun b o hb => hx.keeps b o (of_hideAll _ hb)) hen hdd (by simp) rfl fun h' hN => ?_
    obtain ⟨k1, k2, k3, k4⟩ := hN
    exact ⟨h', rfl, ⟨k1, hen, k2, hcls ▸ k3⟩, k4⟩
  · rintro _ _ ⟨h₄, rfl, hheld₄, hsm₄⟩
    refine wpAny_landsW hheld₄ fun h₅ hheld hsm₅' => ?_
    have up₅ : h.UpToSlots h₅ := ((Heap.UpToSlots.of_keeps hx.keeps).trans hsm₄).trans hsm₅'
    have F₅ := toF h₅ hheld.1 up₅
    obtain ⟨ob', hob, hobc⟩ := hheld.there
    refine wpAny_handleBy_builtin (X := X) (T := T') (b := true) hexc hnt hsub (ld_builtin_at F₅ T.g hmiss T.b ((T.builtins x hn).trans hv) ⟨rfl, ⟨ob', hob, hobc⟩, ?_⟩ hk hxk hd)
    refine lands_againW hheld fun h₆ hfl₆ hsm₆ => ?_
    exact wpAny_passesOwnAt hE (k h₆ ⟨fun b o hb ho => hfl₆.1 b o (hideAll_get _ ho hb), fun b o hb ho => (up₅.trans hsm₆) b o ho fun vs => by
      rcases List.mem_cons.mp hb with rfl | hb
      · rw [hL] at ho; cases ho; rw [hLd]; exact fun q => by cases q
      · rw [List.mem_singleton.mp hb, hO] at ho; cases ho; exact hOd vs⟩)
end
end Mine
end
section
theorem Mine.walk_reset_D0 : True := by
  w_top off
  trivial
open PySem PySem.W PyProof.Rows PySem.Calls
set_option maxRecDepth 100000
set_option maxHeartbeats 2000000
namespace Mine

def diffF (κ : Addr → Int) : List Addr → List Addr → List Addr → List Addr × List Addr
  | [], as, ms => (ms, as)
  | x :: r, as, ms => if as.any (fun y => decide (κ y = κ x)) then diffF κ r (as.eraseP fun y => decide (κ y = κ x)) ms else diffF κ r as (ms ++ [x])
def refs (l : List Addr) : Array Value := (l.map Value.ref).toArray
theorem refs_size (l : List Addr) : (refs l).size = l.length := by simp [refs]
theorem erase_mid (p q : List Addr) (y : Addr) : (refs (p ++ y :: q)).eraseIdxIfInBounds p.length = refs (p ++ q) := by
  have h : p.length < (refs (p ++ y :: q)).size := by rw [refs_size]; simp
  unfold Array.eraseIdxIfInBounds
  rw [dif_pos h]
  apply Array.toList_inj.mp
  rw [Array.toList_eraseIdx]
  simp only [refs, List.map_append, List.map_cons]
  rw [List.eraseIdx_append_of_length_le (by simp)]
  simp
section
variable {prog : Program} {w : World} {A : Around} {E : Value → Shared → Prop} {s : Shared} {h₀ h : Heap} {L D : Addr} {m : Str → Option Value} {news news' pre post : List (Addr × Obj)} {its its' : Array Value} {n : Nat}
theorem list_method {name : Str} {id : String} {pl : Sem Bool} {Q : Value × List Value → Shared → Prop} (hl : s.heap.get? D = some (listOf its n)) (slot : Slot "list" name id) (hty : typeOf (.builtin id) = pure (.type "method_descriptor"))
    (h : Q (.builtin id, [.ref D]) s) : wpAny (model prog w) A (getMethod (.ref D) name pl) Q E s :=
  getMethod_builtin ⟨_, hl, rfl⟩ PySem.F.plainAttrs_list slot hty (fun a e => by cases e; exact ⟨_, hl, rfl⟩) h
theorem turned (f : Array Value → Array Value) (N : News h₀ L h (pre ++ (D, listOf its n) :: post)) (a : ∀ p ∈ pre, p.1 ≠ D) (b : ∀ p ∈ post, p.1 ≠ D) (he : f its = its') (hs : its'.size ≠ its.size) :
    News h₀ L (h.update D (Obj.mapSeq f)) (pre ++ (D, listOf its' (n + 1)) :: post) := by
  refine news_set N a b (Heap.SameBut.update ..) ?_
  have q := PySem.IsL.update (N (D, listOf its n) (List.mem_append.mpr (.inr (.head _)))).1 f
  rw [he, if_neg (by simpa using hs)] at q
  exact q
theorem pop_refs {p : List Addr} {y : Addr} {Q : Value → Shared → Prop} (F : Fr h₀ L s.heap m) (N : News h₀ L s.heap news) (U : Upd D (listOf (refs (p ++ [y])) n) (listOf (refs p) (n + 1)) news news')
    (hz : (p ++ [y]).length ≤ sizeLine) (h : ∀ h', Fr h₀ L h' m → News h₀ L h' news' → Q (.ref y) { s with heap := h' }) : wpAny (model prog w) A (call (.builtin "list.pop") [.ref D]) Q E s := by
  obtain ⟨pre, post, rfl, rfl, a, b⟩ := U.split
  have z := N (D, listOf (refs (p ++ [y])) n) (List.mem_append.mpr (.inr (.head _)))
  have hz' : (refs (p ++ [y])).size ≤ sizeLine := by rw [refs_size]; exact hz
  have hk : (refs (p ++ [y])).size - 1 = p.length := by rw [refs_size, List.length_append]; rfl
  have hy : (refs (p ++ [y]))[(refs (p ++ [y])).size - 1]? = some (.ref y) := by rw [hk]; simp [refs]
  refine call_meets PySem.F.slot_list_pop ⟨_, z.1, rfl⟩ PySem.F.entry_list_pop (PySem.F.args_list_pop_1 _) (PySem.MeetsSeq.list_pop_last D _ n (.ref y) hy hz') ⟨z.1, h _ (F.change (Heap.SameBut.update ..) z.2.1 z.2.2) (turned _ N a b ?_ ?_)⟩
  · show (refs (p ++ [y])).eraseIdxIfInBounds ((refs (p ++ [y])).size - 1) = refs p
    rw [hk, erase_mid, List.append_nil]
  · rw [refs_size, refs_size, List.length_append]
    simp
def eqv (κ : Addr → Int) (x : Addr) : Value → Bool
  | .ref a => decide (κ a = κ x)
  | _ => false
theorem eqv_at {κ : Addr → Int} {x : Addr} {as : List Addr} : ∀ y, y ∈ refs as → EqAt prog w (fun h => ∀ a ∈ x :: as, ThingAt h a (κ a)) y (.ref x) (eqv κ x y) := by
  intro y hy
  obtain ⟨a, ha, rfl⟩ : ∃ a, a ∈ as ∧ Value.ref a = y := by simpa [refs] using hy
  exact eq_things _ fun h hp => ⟨hp a (.tail _ ha), hp x (.head _)⟩
theorem remove_hit {κ : Addr → Int} {p q : List Addr} {x y : Addr} {Q : Value → Shared → Prop} (F : Fr h₀ L s.heap m) (N : News h₀ L s.heap news) (U : Upd D (listOf (refs (p ++ y :: q)) n) (listOf (refs (p ++ q)) (n + 1)) news news')
    (hp : ∀ a ∈ x :: (p ++ y :: q), ThingAt s.heap a (κ a)) (hu : A.units + 70 < cLine) (hy : κ y = κ x) (hn : ∀ b ∈ p, κ b ≠ κ x)
    (hz : (p ++ y :: q).length ≤ sizeLine) (h : ∀ h', Fr h₀ L h' m → News h₀ L h' news' → Q .none { s with heap := h' }) : wpAny (model prog w) A (call (.builtin "list.remove") [.ref D, .ref x]) Q E s := by
  obtain ⟨pre, post, rfl, rfl, a, b⟩ := U.split
  have z := N (D, listOf (refs (p ++ y :: q)) n) (List.mem_append.mpr (.inr (.head _)))
  have hz' : (refs (p ++ y :: q)).size ≤ sizeLine := by rw [refs_size]; exact hz
  refine call_meetsIn PySem.F.slot_list_remove ⟨_, z.1, rfl⟩ PySem.F.entry_list_remove (PySem.F.args_list_remove_2 _ _)
    (rem_hit (fun h => ∀ a ∈ x :: (p ++ y :: q), ThingAt h a (κ a)) D (refs (p ++ y :: q)) n (.ref x) (eqv κ x) eqv_at p.length (by rw [refs_size]; simp) ?_ ?_ hz')
    ⟨hp, hu, z.1, h _ (F.change (Heap.SameBut.update ..) z.2.1 z.2.2) (turned _ N a b (erase_mid p q y) ?_)⟩
  · have : (refs (p ++ y :: q))[p.length]? = some (.ref y) := by simp [refs]
    rw [(Array.getElem?_eq_some_iff.mp this).2]
    exact decide_eq_true hy
  · intro i hi hlt
    have : (refs (p ++ y :: q))[i]? = some (.ref p[i]) := by simp [refs, List.getElem?_append_left, hlt]
    rw [(Array.getElem?_eq_some_iff.mp this).2]
    exact decide_eq_false (hn _ (List.getElem_mem hlt))
  · rw [refs_size, refs_size]; simp
theorem remove_none {κ : Addr → Int} {as : List Addr} {x : Addr} {Q : Value → Shared → Prop} (hl : s.heap.get? D = some (listOf (refs as) n))
    (hp : ∀ a ∈ x :: as, ThingAt s.heap a (κ a)) (hu : A.units + 70 < cLine) (hn : ∀ b ∈ as, κ b ≠ κ x) (hh : A.handled = none)
    (h : ∀ h' tk e, Heap.NewExc s.heap h' e "ValueError" → E (.ref e) { s with heap := h', toks := tk }) : wpAny (model prog w) A (call (.builtin "list.remove") [.ref D, .ref x]) Q E s := by
  refine call_meetsIn PySem.F.slot_list_remove ⟨_, hl, rfl⟩ PySem.F.entry_list_remove (PySem.F.args_list_remove_2 _ _)
    (rem_none (fun h => ∀ a ∈ x :: as, ThingAt h a (κ a)) D (refs as) n (.ref x) (eqv κ x) eqv_at ?_)
    ⟨hp, hu, hl, hh, h⟩
  intro i hi
  have hi' : i < as.length := by rwa [refs_size] at hi
  have : (refs as)[i]? = some (.ref as[i]) := by simp [refs, hi']
  rw [(Array.getElem?_eq_some_iff.mp this).2]
  exact decide_eq_false (hn _ (List.getElem_mem hi'))
end
end Mine
end
section
theorem Mine.walk_reset_D1 : True := by
  w_top off
  trivial
open PySem PySem.W PyProof.Rows PySem.Calls
set_option maxRecDepth 100000
set_option maxHeartbeats 2000000
namespace Mine


theorem while_own {prog : Program} {w : World} {A : Around} {E : Value → Shared → Prop} {s : Shared} {test : Expr} {body orelse : List Stmt} {env : Env} {pos : Pos} {Q : Flow → Shared → Prop} (I : Nat → Shared → Prop)
    (turn : ∀ n s, I n s → wpAny (model prog w) A (isTrue test env (eval test env)) (fun b s₂ =>
        if b then wpAny (model prog w) A (execs body env) (fun f s₃ => match f with
            | .next | .cont => ∃ m, m < n ∧ I m s₃
            | .brk => Q .next s₃
            | .ret v => Q (.ret v) s₃) (fun _ _ => False) s₂
        else wpAny (model prog w) A (execs orelse env) Q (fun _ _ => False) s₂) (fun _ _ => False) s)
    (n : Nat) (h : I n s) : wpAny (model prog w) A (exec (.While test body orelse pos) env) Q E s := by
  refine wpAny_While (codeAny_whileLoop I (fun n s hI => wpAny_mono (turn n s hI) (fun b s₂ h₂ => ?_) fun _ _ z => z.elim) n h)
  cases b with
  | true => exact wpAny_mono h₂ (fun f s₃ h₃ => by cases f <;> exact h₃) fun _ _ z => z.elim
  | false => exact wpAny_mono h₂ (fun f s₃ h₃ => h₃) fun _ _ z => z.elim
theorem restL_in {h₀ h : Heap} {own : List Addr} {b : Addr} {o : Obj} (ho : h.get? b = some o) (hb : b ∉ own) (h0 : h₀.get? b = none) : (b, o) ∈ restL h₀ h own :=
  List.mem_filterMap.mpr ⟨b, List.mem_range.mpr (Heap.lt_size ho), by rw [if_neg (by rw [h0]; simp [hb]), ho]; rfl⟩
structure DI (κ : Addr → Int) (s : Shared) (h₀ : Heap) (L exp act mis LO : Addr) (oO : Obj) (fin : List Addr × List Addr) (n : Nat) (s' : Shared) : Prop where
  gp : Gp s s'
  keep : ∀ b o, b ∉ [exp, act, LO] → s.heap.get? b = some o → s'.heap.get? b = some o
  fr : ∃ sl, s'.heap.get? LO = some { oO with slots := sl }
  at_ : ∃ rs as ms cE cA cM iv, n = rs.length ∧ diffF κ rs as ms = fin ∧ rs.length ≤ 1000 ∧ as.length ≤ 1000 ∧ ms.length + rs.length ≤ 1000 ∧ (∀ a ∈ rs ++ as, ThingAt s.heap a (κ a) ∧ a ∉ [exp, act, LO]) ∧
    Fr h₀ L s'.heap (mk [("actual", some (.ref act)), ("expected", some (.ref exp)), ("missing", some (.ref mis)), ("item", iv)]) ∧
    s'.heap.get? exp = some (listOf (refs rs.reverse) cE) ∧ s'.heap.get? act = some (listOf (refs as) cA) ∧ s'.heap.get? mis = some (listOf (refs ms) cM)

theorem diff_call {prog : Program} {w : World} {A : Around} {s : Shared} {R : Result → Shared → Prop} {p : Program} {loose : List Str} {mean : ExcName → Option Value} {mg mb : Str → Option Value} {h₀ : Heap} {exp act LO : Addr} {eo : Env} {oO : Obj} {es as : List Addr} {cE cA : Nat} (κ : Addr → Int)
    (X : (hd.heap_39 w.params).In h₀) (T : Top p loose mean mg mb h₀) (hk0 : ∀ b o, h₀.get? b = some o → s.heap.get? b = some o)
    (hve : mg "ValueError" = none) (hfr : A.frames = some [eo]) (hko : eo.scope.kind ≠ .module) (hfo : eo.frame = some LO) (hO : s.heap.get? LO = some oO) (hOd : ∀ vs, oO.data ≠ .fields vs) (hab : h₀.objs.size ≤ LO)
    (hexp : s.heap.get? exp = some (listOf (refs es) cE)) (hact : s.heap.get? act = some (listOf (refs as) cA)) (hexp0 : h₀.get? exp = none) (hact0 : h₀.get? act = none)
    (hea : exp ≠ act) (heO : exp ≠ LO) (haO : act ≠ LO) (hth : ∀ a ∈ es ++ as, ThingAt s.heap a (κ a) ∧ a ∉ [exp, act, LO]) (hle : es.length ≤ 1000) (hla : as.length ≤ 1000)
    (hdp : A.depth + 40 < recursionLimit) (hh : A.handled = none) (hu : A.units + 100 < cLine)
    (hR : ∀ s' mis tup c1 c2 c3, Gp s s' → (∀ b o, b ∉ [exp, act, LO] → s.heap.get? b = some o → s'.heap.get? b = some o) → (∃ sl, s'.heap.get? LO = some { oO with slots := sl }) →
      s'.heap.get? exp = some (listOf (refs []) c1) → s'.heap.get? act = some (listOf (refs (diffF κ es.reverse as []).2) c2) → s'.heap.get? mis = some (listOf (refs (diffF κ es.reverse as []).1) c3) →
      s.heap.get? mis = none → s.heap.get? tup = none → IsTup s'.heap tup #[.ref mis, .ref act] → R (.ok (.ret (.ref tup))) s') :
    codeAny (model prog w) A (.call (.ref 21) ⟨[.ref exp, .ref act], []⟩) R s := by
  refine' enter (K := hd.heap_39 w.params) (X.keeps hk0) (T.nolimit.keeps hk0) ?k6 ?k7 (by omega) ?k9 ?kB ?_ ?c2 ?c3 ?c4 ?c5
  case k6 => k_is
  case k7 => k_is
  case k9 => exact BindsTo.of_eq rfl
  case kB => exact locs rfl
  case c2 => exact rfl
  case c3 => exact rfl
  case c4 => exact rfl
  case c5 => decide
  intro h₁ L hL F
  replace F := mk_arg2 _ _ _ _ ▸ F
  have hLO : LO < s.heap.objs.size := Heap.lt_size hO
  have Fk0 : ∀ b o, s.heap.get? b = some o → h₁.get? b = some o := F.keep
  have F2 : Fr h₀ L h₁ (mk [("actual", some (.ref act)), ("expected", some (.ref exp))]) := ⟨F.ns, fun b o e => Fk0 b o (hk0 b o e), by rw [hL]; exact Nat.le_of_lt (Nat.lt_of_le_of_lt hab hLO)⟩
  have hLe : exp ≠ L := fun e => by rw [e, hL] at hexp; exact Nat.lt_irrefl _ (Heap.lt_size hexp)
  have hLa : act ≠ L := fun e => by rw [e, hL] at hact; exact Nat.lt_irrefl _ (Heap.lt_size hact)
  have N : News h₀ L h₁ ((exp, listOf (refs es) cE) :: (act, listOf (refs as) cA) :: restL h₀ h₁ [L, exp, act]) := fun q hq => by
    rcases List.mem_cons.mp hq with rfl | hq
    · exact ⟨Fk0 _ _ hexp, hLe, hexp0⟩
    rcases List.mem_cons.mp hq with rfl | hq
    · exact ⟨Fk0 _ _ hact, hLa, hact0⟩
    · exact restL_news (.head _) q hq
  clear F
  have F := F2
  clear F2
  iterate 3 walk1
  iterate 1 walk1
  refine newList_K (vs := []) (by assumption) (by assumption) (fun mis h₂ F N l1 => ?_) (by size_fits)
  refine stN F N (fun h₃ F N => ?_)
  rw [mk_set, mk_pad _ "item" rfl] at F
  have Nr : News h₀ L h₃ (restL h₀ h₁ [L, exp, act]) := news_tail (news_tail (news_tail N))
  have k3 : ∀ b o, b ∉ [L, exp, act] → h₁.get? b = some o → h₃.get? b = some o := restL_back (fun b o e => Fk0 b o (hk0 b o e)) F.keep Nr
  have g3 : ∀ b o, s.heap.get? b = some o → h₃.get? b = some o := fun b o e => by
    by_cases hb : b = exp
    · subst hb; rw [hexp] at e; cases e; exact (N _ (.tail _ (.head _))).1
    by_cases hb' : b = act
    · subst hb'; rw [hact] at e; cases e; exact (N _ (.tail _ (.tail _ (.head _)))).1
    · refine k3 b o (fun hm => ?_) (Fk0 b o e)
      rcases List.mem_cons.mp hm with rfl | hm
      · rw [hL] at e; exact Nat.lt_irrefl _ (Heap.lt_size e)
      rcases List.mem_cons.mp hm with rfl | hm
      · exact hb rfl
      · exact hb' (List.mem_singleton.mp hm)
  have hmL : mis ≠ L := (N _ (.head _)).2.1
  have hm1 : h₁.get? mis = none := by
    cases e : h₁.get? mis with
    | none => rfl
    | some o =>
      by_cases hb : mis ∈ [L, exp, act]
      · rcases List.mem_cons.mp hb with hb | hb
        · exact absurd hb hmL
        rcases List.mem_cons.mp hb with hb | hb
        · exact absurd (hb ▸ l1 _ (.head _)) (Nat.lt_irrefl _)
        · exact absurd ((List.mem_singleton.mp hb) ▸ l1 _ (.tail _ (.head _))) (Nat.lt_irrefl _)
      · exact absurd (l1 _ (.tail _ (.tail _ (restL_in e hb (N _ (.head _)).2.2)))) (Nat.lt_irrefl _)
  have hml : s.heap.get? mis = none := by
    cases e : s.heap.get? mis with
    | none => rfl
    | some o => rw [Fk0 _ _ e] at hm1; cases hm1
  have hme : mis ≠ exp := fun e => by rw [e, hexp] at hml; cases hml
  have hma : mis ≠ act := fun e => by rw [e, hact] at hml; cases hml
  have hmO : mis ≠ LO := fun e => by rw [e, hO] at hml; cases hml
  have hm0 := (N _ (.head _)).2.2
  clear Fk0 k3 Nr l1
  iterate 1 walk1
  refine while_own (DI κ s h₀ L exp act mis LO oO (diffF κ es.reverse as [])) ?turn es.reverse.length ?start
  case start =>
    exact ⟨.eqs rfl rfl rfl, fun b o _ e => g3 b o e, ⟨_, g3 _ _ hO⟩, es.reverse, as, [], cE, cA, 0, none, rfl, rfl, by simpa using hle, hla, by simpa using hle, fun a ha => hth a (by simpa using ha), F, by rw [List.reverse_reverse]; exact (N _ (.tail _ (.head _))).1, (N _ (.tail _ (.tail _ (.head _)))).1, (N _ (.head _)).1⟩
  case turn =>
    rintro n ⟨hp, g, dr, tk, os⟩ ⟨gp, kp, hfr', rs, as', ms, cE', cA', cM', iv, rfl, hfin, hrs, has, hms, hth', F, hE', hA', hM'⟩
    dsimp only at F hE' hA' hM' kp hfr'
    have N : News h₀ L hp ((exp, listOf (refs rs.reverse) cE') :: (act, listOf (refs as') cA') :: (mis, listOf (refs ms) cM') :: restL h₀ hp [L, exp, act, mis]) := fun q hq => by
      rcases List.mem_cons.mp hq with rfl | hq
      · exact ⟨hE', hLe, hexp0⟩
      rcases List.mem_cons.mp hq with rfl | hq
      · exact ⟨hA', hLa, hact0⟩
      rcases List.mem_cons.mp hq with rfl | hq
      · exact ⟨hM', hmL, hm0⟩
      · exact restL_news (.head _) q hq
    iterate 2 walk1
    refine wpAny_truthy_list (News.isList N (.head _)) (by rw [refs_size, List.length_reverse]; omega) ?_
    cases rs with
    | nil => 
      rw [if_neg (by simp [refs])]
      refine wpAny_execs_nil ?_
      iterate 8 walk1
      refine wpAny_newTuple ?_
      have e2 : diffF κ es.reverse as [] = (ms, as') := hfin.symm
      rw [e2] at hR
      obtain ⟨sl, hsl⟩ := hfr'
      refine hR _ mis hp.objs.size cE' cA' cM' (gp.trans (.eqs rfl rfl rfl)) (fun b o hb e => Heap.get?_push_of_some _ (kp b o hb e)) ⟨sl, Heap.get?_push_of_some _ hsl⟩ (Heap.get?_push_of_some _ hE') (Heap.get?_push_of_some _ hA') (Heap.get?_push_of_some _ hM') hml ?_ ⟨_, Heap.get?_push_size _ rfl, rfl, _, rfl⟩
      cases e : s.heap.get? hp.objs.size with
      | none => rfl
      | some o =>
        by_cases hb : hp.objs.size ∈ [exp, act, LO]
        · rcases List.mem_cons.mp hb with hb | hb
          · rw [← hb] at hE'; exact absurd (Heap.lt_size hE') (Nat.lt_irrefl _)
          rcases List.mem_cons.mp hb with hb | hb
          · rw [← hb] at hA'; exact absurd (Heap.lt_size hA') (Nat.lt_irrefl _)
          · rw [← List.mem_singleton.mp hb] at hsl; exact absurd (Heap.lt_size hsl) (Nat.lt_irrefl _)
        · exact absurd (Heap.lt_size (kp _ _ hb e)) (Nat.lt_irrefl _)
    | cons x r =>
      rw [if_pos (by simp [refs])]
      have hrev : (x :: r).reverse = r.reverse ++ [x] := List.reverse_cons
      rw [hrev] at N hE'
      refine hide (fun PP hPP => ?_)
      have kB : keepBase h₀ hp := F.keep
      iterate 5 walk1
      iterate 1 walk1
      have hne3 : ∀ q ∈ ((act, listOf (refs as') cA') :: (mis, listOf (refs ms) cM') :: restL h₀ hp [L, exp, act, mis]), q.1 ≠ exp := fun q hq => by
        rcases List.mem_cons.mp hq with rfl | hq
        · exact Ne.symm hea
        rcases List.mem_cons.mp hq with rfl | hq
        · exact hme
        · exact restL_ne (.tail _ (.head _)) q hq
      refine pop_refs F N (.head hne3) (by simp at hrs ⊢; rw [sizeLine_eq]; omega) (fun h4 F N => ?_)
      refine stN F N (fun h₅ F N => ?_)
      rw [mk_set] at F
      have k5 : ∀ b o, b ∉ [L, exp, act, mis] → hp.get? b = some o → h₅.get? b = some o := restL_back kB F.keep (news_tail (news_tail (news_tail N)))
      clear kB
      have hthx : ∀ a ∈ x :: as', ThingAt h₅ a (κ a) := fun a ha => by
        have hin : a ∈ (x :: r) ++ as' := by
          rcases List.mem_cons.mp ha with rfl | ha
          · exact .head _
          · exact List.mem_append.mpr (.inr ha)
        obtain ⟨z1, z2⟩ := hth' a hin
        obtain ⟨t, o, ho, hcl, n, hd⟩ := z1
        have hna : a ∉ [L, exp, act, mis] := fun hm => by
          rcases List.mem_cons.mp hm with rfl | hm
          · rw [hL] at ho; exact absurd (Heap.lt_size ho) (Nat.lt_irrefl _)
          rcases List.mem_cons.mp hm with rfl | hm
          · exact z2 (.head _)
          rcases List.mem_cons.mp hm with rfl | hm
          · exact z2 (.tail _ (.head _))
          · rw [List.mem_singleton.mp hm, hml] at ho; cases ho
        exact ⟨t, o, k5 a o hna (kp a o z2 ho), hcl, n, hd⟩
      have k6 : ∀ b o, b ∉ [exp, act, LO] → s.heap.get? b = some o → h₅.get? b = some o := fun b o hb e => k5 b o (fun hm => by
        rcases List.mem_cons.mp hm with rfl | hm
        · rw [hL] at e; exact absurd (Heap.lt_size e) (Nat.lt_irrefl _)
        rcases List.mem_cons.mp hm with rfl | hm
        · exact hb (.head _)
        rcases List.mem_cons.mp hm with rfl | hm
        · exact hb (.tail _ (.head _))
        · rw [List.mem_singleton.mp hm, hml] at e; cases e) (kp b o hb e)
      obtain ⟨sl, hsl⟩ := hfr'
      have hLOL : LO ≠ L := fun e => by rw [e, hL] at hLO; exact Nat.lt_irrefl _ hLO
      have hsl5 : h₅.get? LO = some { oO with slots := sl } := k5 _ _ (fun hm => by
        rcases List.mem_cons.mp hm with hm | hm
        · exact hLOL hm
        rcases List.mem_cons.mp hm with hm | hm
        · exact heO hm.symm
        rcases List.mem_cons.mp hm with hm | hm
        · exact haO hm.symm
        · exact hmO (List.mem_singleton.mp hm).symm) hsl
      clear k5 kp hsl hE' hA' hM'
      walk1
      refine wpAny_Try_except ?_
      iterate 10 walk1
      have hLe' := hLe
      have own4 : ∀ {b : Addr}, b ∉ [L, exp, act, mis] → b ≠ L ∧ b ≠ exp ∧ b ≠ act ∧ b ≠ mis := fun {b} hb => ⟨fun e => hb (e ▸ .head _), fun e => hb (e ▸ .tail _ (.head _)), fun e => hb (e ▸ .tail _ (.tail _ (.head _))), fun e => hb (e ▸ .tail _ (.tail _ (.tail _ (.head _))))⟩
      have hnot : ∀ b o, b ∉ [exp, act, LO] → s.heap.get? b = some o → b ∉ [L, exp, act, mis] ∧ b ≠ LO := fun b o hb e => ⟨(fun hm => by
        rcases List.mem_cons.mp hm with rfl | hm
        · rw [hL] at e; exact absurd (Heap.lt_size e) (Nat.lt_irrefl _)
        rcases List.mem_cons.mp hm with rfl | hm
        · exact hb (.head _)
        rcases List.mem_cons.mp hm with rfl | hm
        · exact hb (.tail _ (.head _))
        · rw [List.mem_singleton.mp hm, hml] at e; cases e), fun e => hb (e ▸ .tail _ (.tail _ (.head _)))⟩
      have hLOn : LO ∉ [L, exp, act, mis] := fun hm => by
        rcases List.mem_cons.mp hm with hm | hm
        · exact hLOL hm
        rcases List.mem_cons.mp hm with hm | hm
        · exact heO hm.symm
        rcases List.mem_cons.mp hm with hm | hm
        · exact haO hm.symm
        · exact hmO (List.mem_singleton.mp hm).symm
      have hfr2 : News h₀ L h₅ (restL h₀ h₅ [L, exp, act, mis]) := restL_news (.head _)
      have N5 : News h₀ L h₅ ((exp, listOf (refs r.reverse) (cE' + 1)) :: (act, listOf (refs as') cA') :: (mis, listOf (refs ms) cM') :: restL h₀ h₅ [L, exp, act, mis]) := fun q hq => by
        rcases List.mem_cons.mp hq with rfl | hq
        · exact N _ (.head _)
        rcases List.mem_cons.mp hq with rfl | hq
        · exact N _ (.tail _ (.head _))
        rcases List.mem_cons.mp hq with rfl | hq
        · exact N _ (.tail _ (.tail _ (.head _)))
        · exact hfr2 q hq
      clear N hfr2
      have F5 : keepBase h₀ h₅ := F.keep
      by_cases hany : as'.any (fun y => decide (κ y = κ x)) = true
      · obtain ⟨y0, hy0, hy1⟩ := List.any_eq_true.mp hany
        obtain ⟨y, l₁, l₂, hl1, hy, hl2, hl3⟩ := List.exists_of_eraseP (p := fun y => decide (κ y = κ x)) hy0 hy1
        have hst : diffF κ (x :: r) as' ms = diffF κ r (l₁ ++ l₂) ms := by
          rw [diffF, if_pos hany, hl3]
        rw [hl2] at N5 hthx has hth'
        have hneA : ∀ q ∈ ((mis, listOf (refs ms) cM') :: restL h₀ h₅ [L, exp, act, mis]), q.1 ≠ act := fun q hq => by
          rcases List.mem_cons.mp hq with rfl | hq
          · exact hma
          · exact restL_ne (.tail _ (.tail _ (.head _))) q hq
        refine remove_hit F N5 (.tail hea (.head hneA)) hthx (by show A.units + 3 + 70 < cLine; omega) (of_decide_eq_true hy) (fun b hb e => hl1 b hb (decide_eq_true e)) (by rw [sizeLine_eq]; omega) (fun h6 F N => ?_)
        refine wpAny_execs_nil ?_
        refine wpAny_execs_nil ?_
        refine wpAny_execs_nil ?_
        have k9 : ∀ b o, b ∉ [L, exp, act, mis] → h₅.get? b = some o → h6.get? b = some o := restL_back F5 F.keep (news_tail (news_tail (news_tail N)))
        refine hPP _ _ ?_
        refine ⟨r.length, by simp, gp.trans (.eqs rfl rfl rfl), fun b o hb e => k9 b o (hnot b o hb e).1 (k6 b o hb e), ⟨sl, k9 _ _ hLOn hsl5⟩, r, l₁ ++ l₂, ms, cE' + 1, cA' + 1, cM', _, rfl, hst.symm.trans hfin, ?_, ?_, ?_, ?_, F, (N _ (.head _)).1, (N _ (.tail _ (.head _))).1, (N _ (.tail _ (.tail _ (.head _)))).1⟩
        · simp at hrs; omega
        · simp at has ⊢; omega
        · simp at hms; omega
        · intro a ha
          refine hth' a ?_
          rcases List.mem_append.mp ha with ha | ha
          · exact .tail _ (List.mem_append.mpr (.inl ha))
          · refine .tail _ (List.mem_append.mpr (.inr ?_))
            rcases List.mem_append.mp ha with ha | ha
            · exact List.mem_append.mpr (.inl ha)
            · exact List.mem_append.mpr (.inr (.tail _ ha))
      · have hno : ∀ b ∈ as', κ b ≠ κ x := fun b hb e => hany (List.any_eq_true.mpr ⟨b, hb, decide_eq_true e⟩)
        have hst : diffF κ (x :: r) as' ms = diffF κ r as' (ms ++ [x]) := by
          rw [diffF, if_neg hany]
        refine remove_none (N5 _ (.tail _ (.head _))).1 hthx (by show A.units + 3 + 70 < cLine; omega) hno hh (fun h6 tk6 e hx => ?_)
        refine caught_D (T' := "ValueError") hfr hko hfo hsl5 hOd (Heap.get?_none_of_le hab) F hx (topRead_of T) PyProof.Rows.Boot.«ValueError» PySem.F.isExc_ValueError PySem.F.notTuple_ValueError (by rw [isSubtype_type]; kernel_rfl) (fun h7 hf => ?_) hve
        have F7 : Fr h₀ L h7 (mk (setL [("actual", some (.ref act)), ("expected", some (.ref exp)), ("missing", some (.ref mis)), ("item", iv)] "item" (.ref x))) := by
          obtain ⟨oL, esL, epL, hoL, hLd, hLk, hLf⟩ := F.ns
          obtain ⟨sl', hs'⟩ := hf.slots L oL (.head _) hoL
          refine ⟨⟨_, esL, epL, hs', hLd, hLk, hLf⟩, fun b o hb => hf.keep b o (fun hm => ?_) (F.keep b o hb), F.above⟩
          have hlt := Heap.lt_size hb
          rcases List.mem_cons.mp hm with rfl | hm
          · exact Nat.lt_irrefl _ (Nat.lt_of_lt_of_le hlt F.above)
          · rw [List.mem_singleton.mp hm] at hlt; exact Nat.lt_irrefl _ (Nat.lt_of_lt_of_le hlt hab)
        have hLOs : ∃ sl, h7.get? LO = some { oO with slots := sl } := by
          obtain ⟨sl', hs'⟩ := hf.slots LO _ (.tail _ (.head _)) hsl5
          exact ⟨sl', hs'⟩
        have fk2 : ∀ {b : Addr}, b ≠ L → b ≠ LO → b ∉ [L, LO] := fun h1 h2 hm => by
          rcases List.mem_cons.mp hm with hm | hm
          · exact h1 hm
          · exact h2 (List.mem_singleton.mp hm)
        have hE7 := hf.keep _ _ (fk2 hLe heO) (N5 _ (.head _)).1
        have hA7 := hf.keep _ _ (fk2 hLa haO) (N5 _ (.tail _ (.head _))).1
        have hM7 := hf.keep _ _ (fk2 hmL hmO) (N5 _ (.tail _ (.tail _ (.head _)))).1
        dsimp only at hE7 hA7 hM7
        have N7 : News h₀ L h7 ((mis, listOf (refs ms) cM') :: restL h₀ h7 [L, mis]) := fun q hq => by
          rcases List.mem_cons.mp hq with rfl | hq
          · exact ⟨hM7, hmL, hm0⟩
          · exact restL_news (.head _) q hq
        clear N5
        iterate 9 walk1
        refine append_K F7 N7 (.head (restL_ne (.tail _ (.head _)))) (fun h8 F N => ?_) (by rw [refs_size, sizeLine_eq]; omega)
        iterate 2 (refine wpAny_execs_nil ?_)
        have k9 : ∀ b o, b ∉ [L, mis] → h7.get? b = some o → h8.get? b = some o := restL_back F7.keep F.keep (news_tail N)
        have no2 : ∀ {b : Addr}, b ≠ L → b ≠ mis → b ∉ [L, mis] := fun h1 h2 hm => by
          rcases List.mem_cons.mp hm with hm | hm
          · exact h1 hm
          · exact h2 (List.mem_singleton.mp hm)
        obtain ⟨sl7, hs7⟩ := hLOs
        refine hPP _ _ ?_
        refine ⟨r.length, by simp, gp.trans (.eqs rfl rfl rfl), fun b o hb e => ?_, ⟨sl7, k9 _ _ (no2 hLOL (Ne.symm hmO)) hs7⟩, r, as', ms ++ [x], cE' + 1, cA', cM' + 1, _, rfl, hst.symm.trans hfin, ?_, has, ?_, ?_, F, k9 _ _ (no2 hLe (Ne.symm hme)) hE7, k9 _ _ (no2 hLa (Ne.symm hma)) hA7, ?_⟩
        · obtain ⟨z1, z2⟩ := hnot b o hb e
          obtain ⟨z3, _, _, z4⟩ := own4 z1
          exact k9 b o (no2 z3 z4) (hf.keep b o (fk2 z3 z2) (k6 b o hb e))
        · simp at hrs; omega
        · simp at hms ⊢; omega
        · exact fun a ha => hth' a (.tail _ ha)
        · have z := (N _ (.head _)).1
          have e1 : (refs ms).push (.ref x) = refs (ms ++ [x]) := by simp [refs]
          rw [e1] at z
          exact z
end Mine
end
section
theorem Mine.walk_reset_P0 : True := by
  w_top off
  trivial
open PySem PySem.W PyProof.Rows PySem.Calls
set_option maxRecDepth 100000
set_option maxHeartbeats 2000000
namespace Mine
/-- a for loop over a walk, the invariant blind to the iterator -/
theorem for_walks {prog : Program} {w : World} {A : Around} {R : Result → Shared → Prop} {target : Expr} {I : Addr} {fp : List Addr} {n : Nat} {P : Nat → Value → Prop} {St : Nat → Heap → Prop} {body orelse : List Stmt} {env : Env} {s : Shared}
    (W : Walks prog w A I fp [I] n P St) (J : Nat → Shared → Prop)
    (hJ : ∀ j (s : Shared) h' tk, J j s → (∀ b o, b ≠ I → s.heap.get? b = some o → h'.get? b = some o) → J j { s with heap := h', toks := tk })
    (step : ∀ j v (s : Shared), j < n → P j v → J j s → wpAny (model prog w) A (assign target env v) (fun _ s₂ => wpAny (model prog w) A (execs body env) (fun f s₃ => match f with
        | .next | .cont => (∀ b ∈ fp, ∀ o, s.heap.get? b = some o → s₃.heap.get? b = some o) ∧ J (j + 1) s₃
        | .brk => R (.ok .next) s₃
        | .ret v => R (.ok (.ret v)) s₃) (fun _ _ => False) s₂) (fun _ _ => False) s)
    (fin : ∀ s, J n s → wpAny (model prog w) A (execs orelse env) (fun f s₃ => R (.ok f) s₃) (fun _ _ => False) s)
    (h0 : J 0 s) (st : St 0 s.heap) (ht : ∀ v, letOwnedTupleGo target (.ref I) v = pure () := by intro _; rfl) : codeAny (model prog w) A (.forLoop target (.ref I) body orelse env) R s := by
  refine codeAny_forLoop (fun m s => ∃ j, m = n + 1 - j ∧ j ≤ n ∧ J j s ∧ St j s.heap) ?_ (n + 1) ⟨0, rfl, Nat.zero_le _, h0, st⟩ ht
  rintro m s ⟨j, rfl, hj, hJs, hSt⟩
  by_cases hlt : j < n
  · refine W.item j s _ _ hlt hSt fun v h' tk hP hSt' hk => ?_
    have hJ' := hJ j s h' tk hJs fun b o hb e => hk b o (fun hm => hb (List.mem_singleton.mp hm)) e
    refine wpAny_mono (step j v _ hlt hP hJ') (fun _ s₂ h₂ => wpAny_mono h₂ (fun f s₃ h₃ => ?_) fun _ _ z => z.elim) fun _ _ z => z.elim
    cases f with
    | next => exact ⟨_, by omega, j + 1, rfl, hlt, h₃.2, W.frame _ _ _ hSt' h₃.1⟩
    | cont => exact ⟨_, by omega, j + 1, rfl, hlt, h₃.2, W.frame _ _ _ hSt' h₃.1⟩
    | brk => exact h₃
    | ret v => exact h₃
  · obtain rfl : j = n := by omega
    refine W.done s _ _ hSt fun h' tk hk => ?_
    exact wpAny_mono (fin _ (hJ j s h' tk hJs fun b o hb e => hk b o (fun hm => hb (List.mem_singleton.mp hm)) e)) (fun _ _ z => z) fun _ _ z => z.elim
theorem strs_at {vs : List Value} {ys : List Str} (h : StrsAre vs ys) : ∀ {k : Nat} {y : Str}, ys[k]? = some y → ∃ t, vs[k]? = some (.str y t) := by
  induction h with
  | nil => intro k y e; simp at e
  | cons z u _ ih =>
    intro k y e
    cases k with
    | zero => exact ⟨u, by have e' : z = y := by simpa using e
                           subst e'; rfl⟩
    | succ k => exact ih (by simpa using e)
theorem ints_at {vs : List Value} {ys : List Int} (h : IntsAre vs ys) : ∀ {k : Nat} {y : Int}, ys[k]? = some y → ∃ t, vs[k]? = some (.int y t) := by
  induction h with
  | nil => intro k y e; simp at e
  | cons z u _ ih =>
    intro k y e
    cases k with
    | zero => exact ⟨u, by have e' : z = y := by simpa using e
                           subst e'; rfl⟩
    | succ k => exact ih (by simpa using e)
/-- a written table of texts, read at an open place -/
def tab (l : List Str) (k : Int) : Str := l.getD k.toNat (Str.ofString "")
theorem item_tab {prog : Program} {w : World} {A : Around} {E : Value → Shared → Prop} {s : Shared} {value slice : PySem.Expr} {l : Addr} {vs : List Value} {ys : List Str} {k : Int} {u : Tok} {Q : Value → Shared → Prop}
    (hl : s.heap.IsList l vs.toArray) (hy : StrsAre vs ys) (h0 : 0 ≤ k) (hhi : k < ys.length) (hsm : ys.length ≤ 1000) (h : ∀ t, Q (.str (tab ys k) t) s)
    (hs : subscripted slice false (.ref l) (.int k u) = operate [.ref l, .int k u] (getItem (.ref l) (.int k u)) := by with_unfolding_all rfl) :
    wpAny (model prog w) A (subscriptTail value slice (.ref l) (.int k u)) Q E s := by
  have hlt : k.toNat < ys.length := by omega
  obtain ⟨t, ht⟩ := strs_at hy (List.getElem?_eq_getElem hlt)
  have e : ys[k.toNat] = tab ys k := by unfold tab; rw [List.getD_eq_getElem?_getD, List.getElem?_eq_getElem hlt]; rfl
  rw [e] at ht
  exact item_list hl h0 (by omega) ht (h t) hs
end Mine
end
section
theorem Mine.walk_reset_P1 : True := by
  w_top off
  trivial
open PySem PySem.W PyProof.Rows PySem.Calls
set_option maxRecDepth 100000
set_option maxHeartbeats 2000000
namespace Mine
def sgn (n : Int) : Str := tab ["(", ")"] (n / 2 % 2)
def part (kind n : Int) : Str :=
  if n % 2 = kind then tab ["", "\\\\", "\\\"", "\"\""] (n / 4) ++ sgn n
  else tab ["\\", "\"", "\"\\\"", "\\\\\""] (n / 4) ++ sgn n ++ tab ["", "\"", "\"", "\""] (n / 4)

theorem fl2 {n : Int} : (n.fdiv 2).fmod 2 = n / 2 % 2 := by rw [Int.fdiv_eq_ediv_of_nonneg _ (by omega), Int.fmod_eq_emod_of_nonneg _ (by omega)]
theorem fl4 {n : Int} : n.fdiv 4 = n / 4 := Int.fdiv_eq_ediv_of_nonneg _ (by omega)
theorem fm2 {n : Int} : n.fmod 2 = n % 2 := Int.fmod_eq_emod_of_nonneg _ (by omega)
theorem strs_len {vs : List Value} {ns : List Str} (h : StrsAre vs ns) : vs.length = ns.length := by
  induction h with
  | nil => rfl
  | cons _ _ _ ih => simp [ih]
theorem ints_len {vs : List Value} {ns : List Int} (h : IntsAre vs ns) : vs.length = ns.length := by
  induction h with
  | nil => rfl
  | cons _ _ _ ih => simp [ih]
theorem tab2_len {a b : Str} {k : Int} {m : Nat} (h0 : 0 ≤ k) (h2 : k < 2) (ha : a.length ≤ m) (hb : b.length ≤ m) : (tab [a, b] k).length ≤ m := by
  have : k = 0 ∨ k = 1 := by omega
  rcases this with h | h <;> rw [h]
  · exact ha
  · exact hb
theorem tab4_len {a b c d : Str} {k : Int} {m : Nat} (h0 : 0 ≤ k) (h4 : k < 4) (ha : a.length ≤ m) (hb : b.length ≤ m) (hc : c.length ≤ m) (hd : d.length ≤ m) : (tab [a, b, c, d] k).length ≤ m := by
  have : k = 0 ∨ k = 1 ∨ k = 2 ∨ k = 3 := by omega
  rcases this with h | h | h | h <;> rw [h]
  · exact ha
  · exact hb
  · exact hc
  · exact hd
theorem app_len (x y : Str) : (x ++ y).length = x.length + y.length := by
  obtain ⟨x⟩ := x; obtain ⟨y⟩ := y
  show (x ++ y).size = x.size + y.size
  exact Array.size_append
theorem parts_call {prog : Program} {w : World} {A : Around} {s : Shared} {R : Result → Shared → Prop} {p : Program} {loose : List Str} {mean : ExcName → Option Value} {mg mb : Str → Option Value} {c : Addr} {vs : List Value} {ns : List Int} {kind : Int} {tK : Tok}
    (X : (hd.heap_39 w.params).In s.heap) (T : Top p loose mean mg mb s.heap) (hl : s.heap.IsList c vs.toArray) (hi : IntsAre vs ns) (hr : ∀ n ∈ ns, 0 ≤ n ∧ n < 16) (hlen : ns.length ≤ 1000)
    (hdp : A.depth + 40 < recursionLimit) (hh : A.handled = none) (hu : A.units + 90 < cLine)
    (hR : ∀ s' D us ep, Kp s s' → s'.heap.get? D = some (listOf us ep) → StrsAre us.toList (ns.map (part kind)) → s.heap.get? D = none → R (.ok (.ret (.ref D))) s') :
    codeAny (model prog w) A (.call (.ref 49) ⟨[.ref c, .int kind tK], []⟩) R s := by
  refine' enter (K := hd.heap_39 w.params) X T.nolimit ?k6 ?k7 (by omega) ?k9 ?kB ?_ ?c2 ?c3 ?c4 ?c5
  case k6 => k_is
  case k7 => k_is
  case k9 => exact BindsTo.of_eq rfl
  case kB => exact locs rfl
  case c2 => exact rfl
  case c3 => exact rfl
  case c4 => exact rfl
  case c5 => decide
  intro h₁ L hL F
  replace F : Fr s.heap L h₁ (mk [("kind", some (.int kind tK)), ("cells", some (.ref c))]) := mk_arg2 _ _ _ _ ▸ F
  have N : News s.heap L h₁ [] := News.nil
  generalize hB : Around.deeper A _ = B
  have hBh : B.handled = none := by rw [← hB]; exact hh
  have hBd : B.depth = A.depth + 1 := by rw [← hB]; rfl
  have hBu : B.units = A.units + 3 := by rw [← hB]; rfl
  clear hB
  iterate 4 walk1
  refine newList_K (vs := []) F N (fun D h₂ F N _ => ?_) (by size_fits)
  refine stN F N (fun h₃ F N => ?_)
  rw [mk_set, mk_pad _ "cell" rfl, mk_pad _ "sign" rfl, mk_pad _ "dress" rfl] at F
  refine wpAny_execs_cons (wpAny_For ?_)
  iterate 1 walk1
  have Lc : h₃.IsList c vs.toArray := hl.at fun o e => F.keep _ _ e
  have hDI : D ≠ h₃.objs.size := Nat.ne_of_lt (Heap.lt_size (N _ (.head _)).1)
  have hLI : L ≠ h₃.objs.size := Nat.ne_of_lt F.ns.lt
  have hcI : c ≠ h₃.objs.size := by obtain ⟨o, ho, _⟩ := Lc; exact Nat.ne_of_lt (Heap.lt_size ho)
  have h0I : s.heap.objs.size ≤ h₃.objs.size := by have := F.ns.lt; have h' : L < h₃.objs.size := this; omega
  have hDL : D ≠ L := (N _ (.head _)).2.1
  have hvl : vs.length = ns.length := ints_len hi
  refine wpAny_pyIter_list Lc ?_
  refine for_walks (Walks.list hBh h₃.objs.size c hcI vs.toArray) (fun j s' => Gp s s' ∧ ∃ us ep cv sv dv, StrsAre us.toList ((ns.take j).map (part kind)) ∧ News s.heap L s'.heap [(D, listOf us ep)] ∧
    Fr s.heap L s'.heap (mk [("kind", some (.int kind tK)), ("cells", some (.ref c)), ("parts", some (.ref D)), ("cell", cv), ("sign", sv), ("dress", dv)])) ?hJ ?step ?fin ?h0 ?st
  case hJ =>
    rintro j s1 h' tk ⟨g, us, ep, cv, sv, dv, hS, N1, F1⟩ hk
    refine ⟨g.trans (.eqs rfl rfl rfl), us, ep, cv, sv, dv, hS, news_off N1 fun q hq e => hk _ _ (by rw [List.mem_singleton.mp hq]; exact hDI) e, fr_off F1 fun b o e hb => hk b o (fun hbI => ?_) e⟩
    rcases hb with hb | hb
    · exact hLI (hb.symm.trans hbI)
    · have hlt := Heap.lt_size hb
      rw [hbI] at hlt
      exact Nat.lt_irrefl _ (Nat.lt_of_lt_of_le hlt h0I)
  case st => exact ⟨⟨_, Heap.get?_push_size _ rfl, rfl, rfl⟩, Lc.at fun o e => Heap.get?_push_of_some _ e⟩
  case h0 => exact ⟨.eqs rfl rfl rfl, #[], 0, none, none, none, .nil, news_off N fun q _ e => Heap.get?_push_of_some _ e, fr_off F fun b o e _ => Heap.get?_push_of_some _ e⟩
  case fin =>
    rintro ⟨hp, g, dr, tk, os⟩ ⟨gp, us, ep, cv, sv, dv, hS, N1, F1⟩
    dsimp only at N1 F1
    have e1 : ns.take vs.toArray.size = ns := by rw [List.size_toArray, hvl]; exact List.take_length
    rw [e1] at hS
    refine wpAny_execs_nil ?_
    iterate 3 walk1
    exact hR _ D us ep (.of F1.keep gp) (N1 _ (.head _)).1 hS (N1 _ (.head _)).2.2
  case step =>
    rintro j v ⟨hp, g, dr, tk, os⟩ hj hv ⟨gp, us, ep, cv, sv, dv, hS, N1, F1⟩
    dsimp only at N1 F1
    have hj' : j < ns.length := by rw [List.size_toArray, hvl] at hj; exact hj
    obtain ⟨n, hn⟩ : ∃ n, ns[j]? = some n := ⟨_, List.getElem?_eq_getElem hj'⟩
    obtain ⟨tn, htn⟩ := ints_at hi hn
    obtain rfl : v = .int n tn := by
      have hv' : vs[j]? = some v := by simpa using hv
      rw [htn] at hv'; injection hv' with hv'; exact hv'.symm
    obtain ⟨hn0, hn1⟩ := hr n (List.mem_of_getElem? hn)
    have N2 : News s.heap L hp ((D, listOf us ep) :: restL s.heap hp [L, D]) := news_cons (N1 _ (.head _)).1 hDL (N1 _ (.head _)).2.2 (restL_news (.head _))
    have kB := F1.keep
    clear N1
    refine wpAny_assign_Name (stN F1 N2 fun h4 F N => ?_)
    rw [mk_set] at F
    iterate 19 walk1
    rename_i l5 h5 F5 N5 _
    dsimp only
    rw [fl2]
    refine item_tab (vs := [_, _]) (ys := ["(", ")"]) (News.isList N5 (.head _)) (.cons _ _ (.cons _ _ .nil)) (by omega) (by show n / 2 % 2 < 2; omega) (by decide) (fun t5 => ?_)
    refine stN F5 (news_tail N5) (fun h6 F6 N6 => ?_)
    rw [mk_set] at F6
    clear F5 N5
    dsimp only
    iterate 7 walk1
    dsimp only
    rw [fl4]
    refine stN F6 N6 (fun h7 F7 N7 => ?_)
    rw [mk_set] at F7
    clear F6 N6
    dsimp only
    iterate 10 walk1
    refine wpAny_truthy_bool ?_
    rw [fm2]
    dsimp only
    have close : ∀ (s3 : Shared) t8 v1 v2 v3, s3.gens = g → s3.drawn = dr → s3.os = os → Fr s.heap L s3.heap (mk [("kind", some (.int kind tK)), ("cells", some (.ref c)), ("parts", some (.ref D)), ("cell", v1), ("sign", v2), ("dress", v3)]) →
        News s.heap L s3.heap ((D, listOf (us.push (.str (part kind n) t8)) (ep + 1)) :: restL s.heap hp [L, D]) →
        (∀ b ∈ [h₃.objs.size, c], ∀ o, hp.get? b = some o → s3.heap.get? b = some o) ∧ Gp s s3 ∧ ∃ us ep cv sv dv, StrsAre us.toList ((ns.take (j + 1)).map (part kind)) ∧ News s.heap L s3.heap [(D, listOf us ep)] ∧
          Fr s.heap L s3.heap (mk [("kind", some (.int kind tK)), ("cells", some (.ref c)), ("parts", some (.ref D)), ("cell", cv), ("sign", sv), ("dress", dv)]) := by
      intro s3 t8 v1 v2 v3 e1 e2 e3 F8 N8
      have kb := restL_back kB F8.keep (news_tail N8)
      refine ⟨fun b hb o e => kb b o (fun hm => ?_) e, gp.trans (.eqs e1 e2 e3), _, _, v1, v2, v3, ?_, fun q hq => by rw [List.mem_singleton.mp hq]; exact N8 _ (.head _), F8⟩
      · rcases List.mem_cons.mp hb with rfl | hb
        · rcases List.mem_cons.mp hm with hm | hm
          · exact hLI hm.symm
          · exact hDI (List.mem_singleton.mp hm).symm
        · have hb := List.mem_singleton.mp hb
          subst hb
          obtain ⟨o', ho', _⟩ := hl
          rcases List.mem_cons.mp hm with hm | hm
          · rw [hm, hL] at ho'; exact absurd (Heap.lt_size ho') (Nat.lt_irrefl _)
          · rw [List.mem_singleton.mp hm, (N8 _ (.head _)).2.2] at ho'; cases ho'
      · rw [List.take_add_one, hn, List.map_append]
        simpa using strs_snoc (y := part kind n) (t := t8) hS
    have husz : us.size ≤ sizeLine := by
      have := strs_len hS
      rw [List.length_map, List.length_take] at this
      rw [sizeLine_eq]
      have : us.size = us.toList.length := by simp
      omega
    have z1 := tab2_len (a := "(") (b := ")") (k := n / 2 % 2) (m := 1) (by omega) (by omega) (by decide) (by decide)
    have z2 := tab4_len (a := "") (b := "\\\\") (c := "\\\"") (d := "\"\"") (k := n / 4) (m := 3) (by omega) (by omega) (by decide) (by decide) (by decide) (by decide)
    have z3 := tab4_len (a := "\\") (b := "\"") (c := "\"\\\"") (d := "\\\\\"") (k := n / 4) (m := 3) (by omega) (by omega) (by decide) (by decide) (by decide) (by decide)
    have z4 := tab4_len (a := "") (b := "\"") (c := "\"") (d := "\"") (k := n / 4) (m := 3) (by omega) (by omega) (by decide) (by decide) (by decide) (by decide)
    by_cases hc : n % 2 = kind
    · rw [if_pos (by simpa using hc)]
      iterate 23 walk1
      rename_i l9 h9 F9 N9 _
      dsimp only
      refine item_tab (vs := [_, _, _, _]) (ys := ["", "\\\\", "\\\"", "\"\""]) (News.isList N9 (.head _)) (.cons _ _ (.cons _ _ (.cons _ _ (.cons _ _ .nil)))) (by omega) (by show n / 4 < 4; omega) (by decide) (fun t9 => ?_)
      have N9' := news_tail N9
      clear N9
      iterate 1 walk1
      refine PyProof.Rows.add_str (fun t10 tk10 => ?_) (by rw [sizeLine_eq]; omega)
      iterate 1 walk1
      refine append_K F9 N9' (.head (restL_ne (.tail _ (.head _)))) (fun h10 F N => ?_) husz
      iterate 2 refine wpAny_execs_nil ?_
      have e9 : tab ["", "\\\\", "\\\"", "\"\""] (n / 4) ++ tab ["(", ")"] (n / 2 % 2) = part kind n := by unfold part sgn; rw [if_pos hc]
      rw [e9] at N
      exact close ⟨h10, g, dr, tk10, os⟩ t10 _ _ _ rfl rfl rfl F N
    · rw [if_neg (by simpa using hc)]
      iterate 23 walk1
      rename_i l9 h9 F9 N9 _
      refine item_tab (vs := [_, _, _, _]) (ys := ["\\", "\"", "\"\\\"", "\\\\\""]) (News.isList N9 (.head _)) (.cons _ _ (.cons _ _ (.cons _ _ (.cons _ _ .nil)))) (by omega) (by show n / 4 < 4; omega) (by decide) (fun t9 => ?_)
      have N9' := news_tail N9
      clear N9
      iterate 1 walk1
      refine PyProof.Rows.add_str (fun t10 tk10 => ?_) (by rw [sizeLine_eq]; omega)
      iterate 14 walk1
      rename_i l10 h10 F10 N10 _
      refine item_tab (vs := [_, _, _, _]) (ys := ["", "\"", "\"", "\""]) (News.isList N10 (.head _)) (.cons _ _ (.cons _ _ (.cons _ _ (.cons _ _ .nil)))) (by omega) (by show n / 4 < 4; omega) (by decide) (fun t11 => ?_)
      have N10' := news_tail N10
      clear N10
      refine PyProof.Rows.add_str (fun t12 tk12 => ?_) (by rw [app_len, sizeLine_eq]; omega)
      iterate 1 walk1
      refine append_K F10 N10' (.head (restL_ne (.tail _ (.head _)))) (fun h11 F N => ?_) husz
      iterate 2 refine wpAny_execs_nil ?_
      have e9 : tab ["\\", "\"", "\"\\\"", "\\\\\""] (n / 4) ++ tab ["(", ")"] (n / 2 % 2) ++ tab ["", "\"", "\"", "\""] (n / 4) = part kind n := by unfold part sgn; rw [if_neg hc]
      rw [e9] at N
      exact close ⟨h11, g, dr, tk12, os⟩ t12 _ _ _ rfl rfl rfl F N
end Mine
end
section
theorem Mine.walk_reset_M1 : True := by
  w_top off
  trivial
open PySem PySem.W PyProof.Rows PySem.Calls
set_option maxRecDepth 100000
set_option maxHeartbeats 2000000
namespace Mine
/-- the text of the pieces from f through l, as the law joins them -/
def segT (rowsT : List (List Str)) (k f l : Nat) : Str := Txt.join (Str.ofString "") (((rowsT.getD k []).drop f).take (l + 1 - f))
def mateStep (ns : List Int) (rowsT : List (List Str)) (f : Nat) (m : List Int) (l : Nat) : List Int :=
  if m.getD f 0 < 0 ∧ ns.getD f 0 % 4 < 2 ∧ ns.getD l 0 % 4 = ns.getD f 0 % 4 + 2 ∧ check (segT rowsT (ns.getD f 0 % 2).toNat f l) = true then (m.set f l).set l f else m
def matesF (ns : List Int) (rowsT : List (List Str)) : List Int :=
  (List.range' 0 7).foldl (fun m f => (List.range' (f + 1) (6 - f)).foldl (mateStep ns rowsT f) m) (List.replicate 7 (-1))

theorem strs_drop : ∀ {vs : List Value} {ns : List Str}, StrsAre vs ns → ∀ k : Nat, StrsAre (vs.drop k) (ns.drop k)
  | _, _, h, 0 => h
  | _, _, .nil, _ + 1 => .nil
  | _, _, .cons _ _ h, k + 1 => strs_drop h k
theorem strs_take : ∀ {vs : List Value} {ns : List Str}, StrsAre vs ns → ∀ k : Nat, StrsAre (vs.take k) (ns.take k)
  | _, _, _, 0 => .nil
  | _, _, .nil, _ + 1 => .nil
  | _, _, .cons n t h, k + 1 => .cons n t (strs_take h k)
theorem slice_any {prog : Program} {w : World} {A : Around} {E : Value → Shared → Prop} {s : Shared} {h₀ : Heap} {L : Addr} {m : Str → Option Value} {news : List (Addr × Obj)} {value slice : PySem.Expr} {l : Addr} {items : Array Value} {vl vu : Value} {lo hi : Option Int} {Q : Value → Shared → Prop}
    (F : Fr h₀ L s.heap m) (N : News h₀ L s.heap news) (hl : s.heap.IsList l items) (pl : IsPart vl lo) (pu : IsPart vu hi)
    (h : ∀ h', Fr h₀ L h' m → News h₀ L h' ((s.heap.objs.size + 1, { cls := .type "list", data := .seq (slicePick items lo hi none) }) :: news) → Q (.ref (s.heap.objs.size + 1)) { s with heap := h' })
    (hsz : items.size ≤ sizeLine)
    (hs : subscripted slice false (.ref l) (.ref s.heap.objs.size) = operate [.ref s.heap.objs.size, .ref l] (getItem (.ref l) (.ref s.heap.objs.size)) := by with_unfolding_all rfl) :
    wpAny (model prog w) A (subscriptTail value slice (.ref l) (.ref s.heap.objs.size)) Q E { s with heap := s.heap.push { cls := .type "slice", data := .fields #[vl, vu, .none] } } := by
  refine tail_any (Heap.IsList.typeIs (s := { s with heap := s.heap.push { cls := .type "slice", data := .fields #[vl, vu, .none] } }) (hl.push _)) slot_list_getitem.lookup
    (wpAny_getItem_list_slice (hl.push _) (Heap.IsSliceOf.new ..) pl pu .none (by simp) ?_ hsz) hs
  have N1 := News.push (F.push { cls := .type "slice", data := .fields #[vl, vu, .none] }) (N.grown fun _ _ e => Heap.get?_push_of_some _ e) { cls := .type "list", data := .seq (slicePick items lo hi none) }
  rw [Heap.size_push] at N1
  show Q (.ref (s.heap.push _).objs.size) _
  rw [Heap.size_push]
  exact h _ ((F.push _).push _) N1
theorem list_same {h h' : Heap} {D : Addr} {us : Array Value} {ep : Obj} (l : h.IsList D us) (a : h.get? D = some ep) (b : h'.get? D = some ep) : h'.IsList D us := l.at fun o e => by rw [a] at e; cases e; exact b
theorem ints_set : ∀ {vs : List Value} {ns : List Int}, IntsAre vs ns → ∀ (k : Nat) (x : Int) (t : Tok), IntsAre (vs.set k (.int x t)) (ns.set k x)
  | _, _, .nil, _, _, _ => .nil
  | _, _, .cons _ _ h, 0, _, _ => .cons _ _ h
  | _, _, .cons n t h, k + 1, x, u => .cons n t (ints_set h k x u)
theorem fm4 {n : Int} : n.fmod 4 = n % 4 := Int.fmod_eq_emod_of_nonneg _ (by omega)
theorem j_frame {s s1 : Shared} {L D I : Nat} {o : Obj} {m : Str → Option Value} {h' : Heap} {tk : Nat} (g : Gp s s1) (N1 : News s.heap L s1.heap [(D, o)]) (F1 : Fr s.heap L s1.heap m) (hDI : D ≠ I) (hLI : L ≠ I) (h0I : s.heap.objs.size ≤ I)
    (hk : ∀ b o, b ≠ I → s1.heap.get? b = some o → h'.get? b = some o) : Gp s { s1 with heap := h', toks := tk } ∧ News s.heap L h' [(D, o)] ∧ Fr s.heap L h' m :=
  ⟨g.trans (.eqs rfl rfl rfl), news_off N1 fun q hq e => hk _ _ (by rw [List.mem_singleton.mp hq]; exact hDI) e, fr_off F1 fun b o e hb => hk b o (fun hbI => by
    rcases hb with hb | hb
    · exact hLI (hb.symm.trans hbI)
    · have hlt := Heap.lt_size hb
      rw [hbI] at hlt
      exact Nat.lt_irrefl _ (Nat.lt_of_lt_of_le hlt h0I)) e⟩
theorem ints_get {vs : List Value} {ns : List Int} (h : IntsAre vs ns) {k : Nat} (hk : k < ns.length) : ∃ t, vs[k]? = some (.int (ns.getD k 0) t) := by
  have e : ns[k]? = some (ns.getD k 0) := by rw [List.getD_eq_getElem?_getD, List.getElem?_eq_getElem hk]; rfl
  exact ints_at h e
theorem mates_call {prog : Program} {w : World} {A : Around} {s : Shared} {R : Result → Shared → Prop} {p : Program} {loose : List Str} {mean : ExcName → Option Value} {mg mb : Str → Option Value} {c rw_ p0 p1 : Addr} {vs u0 u1 : List Value} {ns : List Int} {x0 x1 : List Str}
    (X : (hd.heap_39 w.params).In s.heap) (T : Top p loose mean mg mb s.heap) (hl : s.heap.IsList c vs.toArray) (hi : IntsAre vs ns) (hr : ∀ n ∈ ns, 0 ≤ n ∧ n < 16) (hlen : ns.length = 7)
    (hrow : s.heap.IsList rw_ [Value.ref p0, .ref p1].toArray) (hp0 : s.heap.IsList p0 u0.toArray) (hp1 : s.heap.IsList p1 u1.toArray) (hs0 : StrsAre u0 x0) (hs1 : StrsAre u1 x1) (hl0 : x0.length = 7) (hl1 : x1.length = 7)
    (htx : ∀ k f l, k < 2 → f < l → l < 7 → (segT [x0, x1] k f l).cps.all (· < 128) = true ∧ (segT [x0, x1] k f l).cps.size ≤ 1000 ∧ (strip (segT [x0, x1] k f l)).cps.all (· < 128) = true)
    (hsum : ∀ x ∈ x0 ++ x1, x.length ≤ 100)
    (hdp : A.depth + 60 < recursionLimit) (hh : A.handled = none) (hu : A.units + 110 < cLine)
    (hR : ∀ s' D us, Kp s s' → s'.heap.IsList D us → IntsAre us.toList (matesF ns [x0, x1]) → s.heap.get? D = none → R (.ok (.ret (.ref D))) s') :
    codeAny (model prog w) A (.call (.ref 56) ⟨[.ref c, .ref rw_], []⟩) R s := by
  refine' enter (K := hd.heap_39 w.params) X T.nolimit ?k6 ?k7 (by omega) ?k9 ?kB ?_ ?c2 ?c3 ?c4 ?c5
  case k6 => k_is
  case k7 => k_is
  case k9 => exact BindsTo.of_eq rfl
  case kB => exact locs rfl
  case c2 => exact rfl
  case c3 => exact rfl
  case c4 => exact rfl
  case c5 => decide
  intro h₁ L hL F
  replace F : Fr s.heap L h₁ (mk [("rows", some (.ref rw_)), ("cells", some (.ref c))]) := mk_arg2 _ _ _ _ ▸ F
  have N : News s.heap L h₁ [] := News.nil
  generalize hB : Around.deeper A _ = B
  have hBh : B.handled = none := by rw [← hB]; exact hh
  have hBd : B.depth = A.depth + 1 := by rw [← hB]; rfl
  have hBu : B.units = A.units + 3 := by rw [← hB]; rfl
  clear hB
  iterate 9 walk1
  refine newList_K F N (fun D0 h₂ F N _ => ?_) (by size_fits)
  iterate 1 walk1
  refine mul_list F N (N _ (.head _)).1 (by decide) (by decide) (by simp) (fun h₃ F N => ?_)
  obtain ⟨D, hD⟩ : ∃ D, D = h₂.objs.size := ⟨_, rfl⟩
  dsimp only at F N ⊢
  rw [← hD] at N ⊢
  have N' : News s.heap L h₃ [(D, _)] := fun q hq => N q (by rw [List.mem_singleton.mp hq]; exact .head _)
  clear N
  refine stN F N' (fun h4 F N => ?_)
  rw [mk_set, mk_pad _ "first" rfl, mk_pad _ "last" rfl, mk_pad _ "taken" rfl] at F
  clear N'
  have hDL : D ≠ L := (N _ (.head _)).2.1
  have hD0 : s.heap.get? D = none := (N _ (.head _)).2.2
  have hDI : D ≠ h4.objs.size := Nat.ne_of_lt (Heap.lt_size (N _ (.head _)).1)
  have hLI : L ≠ h4.objs.size := Nat.ne_of_lt F.ns.lt
  have h0I : s.heap.objs.size ≤ h4.objs.size := by have := F.ns.lt; have h' : L < h4.objs.size := this; omega
  refine wpAny_execs_cons (wpAny_For ?_)
  clear hDI hLI h0I
  iterate 7 walk1
  rename_i h5 _ _ _ _ hRg F5 N5 _
  have hDI : D ≠ h5.objs.size := Nat.ne_of_lt (Heap.lt_size (N5 _ (.head _)).1)
  have hLI : L ≠ h5.objs.size := Nat.ne_of_lt F5.ns.lt
  have h0I : s.heap.objs.size ≤ h5.objs.size := by have := F5.ns.lt; have h' : L < h5.objs.size := this; omega
  refine wpAny_pyIter_range hRg (by decide) ?_
  refine for_walks (Walks.range hBh _ 0 1 7) (fun j s' => Gp s s' ∧ ∃ us ep fv lv tv, IntsAre us.toList ((List.range' 0 j).foldl (fun m f => (List.range' (f + 1) (6 - f)).foldl (mateStep ns [x0, x1] f) m) (List.replicate 7 (-1))) ∧
    us.size = 7 ∧ s'.heap.IsList D us ∧ News s.heap L s'.heap [(D, ep)] ∧
    Fr s.heap L s'.heap (mk [("rows", some (.ref rw_)), ("cells", some (.ref c)), ("mates", some (.ref D)), ("first", fv), ("last", lv), ("taken", tv)])) ?hJ ?step ?fin ?h0 ?st
  case hJ =>
    rintro j s1 h' tk ⟨g, us, ep, fv, lv, tv, hI, hz, hD1, N1, F1⟩ hk
    obtain ⟨z1, z2, z3⟩ := j_frame (tk := tk) g N1 F1 hDI hLI h0I hk
    exact ⟨z1, us, ep, fv, lv, tv, hI, hz, hD1.at fun o e => hk _ _ hDI e, z2, z3⟩
  case st => exact iter_start (n := 7) (by decide)
  case h0 =>
    refine ⟨.eqs rfl rfl rfl, _, _, none, none, none, ?_, rfl, (News.isList N5 (.head _)).at fun o e => Heap.get?_push_of_some _ e, news_off N5 fun q _ e => Heap.get?_push_of_some _ e, fr_off F5 fun b o e _ => Heap.get?_push_of_some _ e⟩
    exact .cons _ _ (.cons _ _ (.cons _ _ (.cons _ _ (.cons _ _ (.cons _ _ (.cons _ _ .nil))))))
  case fin =>
    rintro ⟨hp, g, dr, tk, os⟩ ⟨gp, us, ep, fv, lv, tv, hI, hz, hD1, N1, F1⟩
    dsimp only at N1 F1 hD1
    refine wpAny_execs_nil ?_
    iterate 3 walk1
    exact hR _ D us (.of F1.keep gp) hD1 hI hD0
  case step =>
    rintro f v ⟨hp, g, dr, tk, os⟩ hf ⟨tv0, rfl⟩ ⟨gp, us, ep, fv, lv, tv, hI, hz, hD1, N1, F1⟩
    dsimp only at N1 F1 hD1
    have kB := F1.keep
    have hDe := (N1 _ (.head _)).1
    have N2 : News s.heap L hp ((D, ep) :: restL s.heap hp [L, D]) := news_cons (N1 _ (.head _)).1 hDL (N1 _ (.head _)).2.2 (restL_news (.head _))
    clear N1
    refine wpAny_assign_Name (stN F1 N2 fun h6 F N => ?_)
    rw [mk_set] at F
    rw [show (0 + (f : Int) * 1) = (f : Int) by omega] at F
    clear F1 N2
    refine wpAny_execs_cons (wpAny_For ?_)
    iterate 12 walk1
    rename_i h7 _ _ _ _ hRg7 F7 N7 _
    have hD7 : h7.IsList D us := list_same hD1 hDe (N7 _ (.head _)).1
    have hDI7 : D ≠ h7.objs.size := Nat.ne_of_lt (Heap.lt_size (N7 _ (.head _)).1)
    have hLI7 : L ≠ h7.objs.size := Nat.ne_of_lt F7.ns.lt
    have h0I7 : s.heap.objs.size ≤ h7.objs.size := by have := F7.ns.lt; have h' : L < h7.objs.size := this; omega
    have k7 : ∀ b o, b ∉ [L, D] → hp.get? b = some o → h7.get? b = some o := restL_back kB F7.keep (news_tail N7)
    have hIL : h5.objs.size ∉ [L, D] := fun hm => by
      rcases List.mem_cons.mp hm with hm | hm
      · exact hLI hm.symm
      · exact hDI (List.mem_singleton.mp hm).symm
    dsimp only at hRg7
    refine wpAny_pyIter_range hRg7 (small_of (by omega) (by omega) (by omega) (by omega)) ?_
    refine for_walks (Walks.range hBh _ ((f : Int) + 1) 1 (6 - f)) (fun j s' => Gp s s' ∧ (∀ b o, b ∉ [L, D] → hp.get? b = some o → s'.heap.get? b = some o) ∧ ∃ us ep lv tv, IntsAre us.toList ((List.range' (f + 1) j).foldl (mateStep ns [x0, x1] f) ((List.range' 0 f).foldl (fun m f => (List.range' (f + 1) (6 - f)).foldl (mateStep ns [x0, x1] f) m) (List.replicate 7 (-1)))) ∧
      us.size = 7 ∧ s'.heap.IsList D us ∧ News s.heap L s'.heap [(D, ep)] ∧
      Fr s.heap L s'.heap (mk [("rows", some (.ref rw_)), ("cells", some (.ref c)), ("mates", some (.ref D)), ("first", some (.int f tv0)), ("last", lv), ("taken", tv)])) ?hJ ?step ?fin ?h0 ?st
    case hJ =>
      rintro j s1 h' tk ⟨g, kp, us, ep, lv, tv, hI, hz, hD1, N1, F1⟩ hk
      obtain ⟨z1, z2, z3⟩ := j_frame (tk := tk) g N1 F1 hDI7 hLI7 h0I7 hk
      exact ⟨z1, fun b o hbn e => hk b o (fun hbI => by
        have := Heap.lt_size (k7 b o hbn e)
        rw [hbI] at this
        exact Nat.lt_irrefl _ this) (kp b o hbn e), us, ep, lv, tv, hI, hz, hD1.at fun o e => hk _ _ hDI7 e, z2, z3⟩
    case st => exact iter_start (by omega)
    case h0 =>
      refine ⟨gp.trans (.eqs rfl rfl rfl), fun b o hbn e => Heap.get?_push_of_some _ (k7 b o hbn e), us, ep, lv, tv, hI, hz, hD7.at fun o e => Heap.get?_push_of_some _ e, fun q hq => ?_, fr_off F7 fun b o e _ => Heap.get?_push_of_some _ e⟩
      rw [List.mem_singleton.mp hq]
      exact ⟨Heap.get?_push_of_some _ (N7 _ (.head _)).1, hDL, hD0⟩
    case fin =>
      rintro ⟨hp', g, dr, tk, os⟩ ⟨gp, kp, us, ep, lv, tv, hI, hz, hD1, N1, F1⟩
      dsimp only at N1 F1 kp hD1
      refine wpAny_execs_nil ?_
      refine wpAny_execs_nil ?_
      refine ⟨fun b hb o e => kp b o (by rw [List.mem_singleton.mp hb]; exact hIL) e, gp, us, ep, _, lv, tv, ?_, hz, hD1, N1, F1⟩
      rw [List.range'_concat, List.foldl_append]
      simpa using hI
    case step =>
      clear hI hz N7 F7 hRg7 
      rintro i v ⟨hp', g, dr, tk, os⟩ hi' ⟨tv1, rfl⟩ ⟨gp, kp, us, ep, lv, tv, hI, hz, hD1, N1, F1⟩
      dsimp only at N1 F1 kp hD1
      have kB' := F1.keep
      have hDe' := (N1 _ (.head _)).1
      have N2 : News s.heap L hp' ((D, ep) :: restL s.heap hp' [L, D]) := news_cons (N1 _ (.head _)).1 hDL (N1 _ (.head _)).2.2 (restL_news (.head _))
      clear N1
      refine wpAny_assign_Name (stN F1 N2 fun h6 F N => ?_)
      rw [mk_set] at F
      rw [show ((f : Int) + 1 + (i : Int) * 1) = ((f + 1 + i : Nat) : Int) by omega] at F
      generalize hl' : f + 1 + i = l at F
      clear F1 N2
      obtain ⟨m, hm⟩ : ∃ m, m = (List.range' (f + 1) i).foldl (mateStep ns [x0, x1] f) ((List.range' 0 f).foldl (fun m f => (List.range' (f + 1) (6 - f)).foldl (mateStep ns [x0, x1] f) m) (List.replicate 7 (-1))) := ⟨_, rfl⟩
      have hm1 : (List.range' (f + 1) (i + 1)).foldl (mateStep ns [x0, x1] f) ((List.range' 0 f).foldl (fun m f => (List.range' (f + 1) (6 - f)).foldl (mateStep ns [x0, x1] f) m) (List.replicate 7 (-1))) = mateStep ns [x0, x1] f m l := by
        rw [List.range'_concat, List.foldl_append, ← hm]
        simp [← hl']
      rw [hm1]
      refine hide (fun PP hPP => ?_)
      rw [← hm] at hI
      have hml : m.length = 7 := by rw [← ints_len hI]; simpa using hz
      have hl7 : l < 7 := by omega
      have hfl : f < l := by omega
      clear hm hm1 hl'
      have close : ∀ (s3 : Shared) us' ep' v1 v2, Gp s s3 → IntsAre us'.toList (mateStep ns [x0, x1] f m l) → us'.size = 7 → s3.heap.IsList D us' → News s.heap L s3.heap ((D, ep') :: restL s.heap hp' [L, D]) →
          Fr s.heap L s3.heap (mk [("rows", some (.ref rw_)), ("cells", some (.ref c)), ("mates", some (.ref D)), ("first", some (.int f tv0)), ("last", v1), ("taken", v2)]) →
          (∀ b ∈ [h7.objs.size], ∀ o, hp'.get? b = some o → s3.heap.get? b = some o) ∧ Gp s s3 ∧ (∀ b o, b ∉ [L, D] → hp.get? b = some o → s3.heap.get? b = some o) ∧ ∃ us ep lv tv, IntsAre us.toList (mateStep ns [x0, x1] f m l) ∧
            us.size = 7 ∧ s3.heap.IsList D us ∧ News s.heap L s3.heap [(D, ep)] ∧
            Fr s.heap L s3.heap (mk [("rows", some (.ref rw_)), ("cells", some (.ref c)), ("mates", some (.ref D)), ("first", some (.int f tv0)), ("last", lv), ("taken", tv)]) := by
        intro s3 us' ep' v1 v2 g' i' z' l' N8 F8
        have kb := restL_back kB' F8.keep (news_tail N8)
        refine ⟨fun b hb o e => kb b o (fun hm => ?_) e, g', fun b o hb e => kb b o hb (kp b o hb e), us', ep', v1, v2, i', z', l', fun q hq => by rw [List.mem_singleton.mp hq]; exact N8 _ (.head _), F8⟩
        rw [List.mem_singleton.mp hb] at hm
        rcases List.mem_cons.mp hm with hm | hm
        · exact hLI7 hm.symm
        · exact hDI7 (List.mem_singleton.mp hm).symm
      obtain ⟨ta, hta⟩ := ints_get hI (k := f) (by omega)
      have hD6 : h6.IsList D us := list_same hD1 hDe' (N _ (.head _)).1
      have Lm : h6.IsList D us.toList.toArray := by rw [Array.toArray_toList]; exact hD6
      iterate 10 walk1
      refine wpAny_truthy_bool ?_
      have e0 : ¬ (m.getD f 0 < 0 ∧ ns.getD f 0 % 4 < 2 ∧ ns.getD l 0 % 4 = ns.getD f 0 % 4 + 2 ∧ check (segT [x0, x1] (ns.getD f 0 % 2).toNat f l) = true) → mateStep ns [x0, x1] f m l = m := fun z => by unfold mateStep; rw [if_neg z]
      have skip_ : mateStep ns [x0, x1] f m l = m → ∀ s3, s3.gens = g → s3.drawn = dr → s3.os = os → s3.heap = h6 → (∀ b ∈ [h7.objs.size], ∀ o, hp'.get? b = some o → s3.heap.get? b = some o) ∧ Gp s s3 ∧ (∀ b o, b ∉ [L, D] → hp.get? b = some o → s3.heap.get? b = some o) ∧ ∃ us ep lv tv, IntsAre us.toList (mateStep ns [x0, x1] f m l) ∧
            us.size = 7 ∧ s3.heap.IsList D us ∧ News s.heap L s3.heap [(D, ep)] ∧
            Fr s.heap L s3.heap (mk [("rows", some (.ref rw_)), ("cells", some (.ref c)), ("mates", some (.ref D)), ("first", some (.int f tv0)), ("last", lv), ("taken", tv)]) := fun e s3 e1 e2 e3 e4 =>
        close s3 us ep _ _ (gp.trans (.eqs e1 e2 e3)) (by rw [e]; exact hI) hz (by rw [e4, ← Array.toArray_toList (xs := us)]; exact Lm) (by rw [e4]; exact N) (by rw [e4]; exact F)
      by_cases ha : m.getD f 0 < 0
      · rw [if_pos (show decide (m.getD (f : Int).toNat 0 < 0) = true from decide_eq_true ha)]
        iterate 11 walk1
        refine wpAny_truthy_bool ?_
        by_cases hb2 : ns.getD f 0 % 4 < 2
        · rw [if_pos (show decide ((ns.getD (f : Int).toNat 0).fmod 4 < 2) = true from decide_eq_true (by rw [fm4]; exact hb2))]
          iterate 20 walk1
          refine wpAny_truthy_bool ?_
          by_cases hb3 : ns.getD l 0 % 4 = ns.getD f 0 % 4 + 2
          · rw [if_pos (show ((ns.getD (l : Int).toNat 0).fmod 4 == (ns.getD (f : Int).toNat 0).fmod 4 + 2) = true by rw [fm4, fm4]; exact beq_iff_eq.mpr hb3)]
            iterate 1 walk1
            rw [if_pos (show (true = true) from rfl)]
            dsimp only
            obtain ⟨kk, hkk⟩ : ∃ kk : Nat, kk = (ns.getD f 0 % 2).toNat := ⟨_, rfl⟩
            have hk2 : kk < 2 := by omega
            obtain ⟨pk, uk, hpk, hpl, hps, hpz⟩ : ∃ pk uk, [Value.ref p0, .ref p1][kk]? = some (.ref pk) ∧ s.heap.IsList pk uk.toArray ∧ StrsAre uk ([x0, x1].getD kk []) ∧ ([x0, x1].getD kk []).length = 7 := by
              have : kk = 0 ∨ kk = 1 := by omega
              rcases this with h | h <;> rw [h]
              · exact ⟨p0, u0, rfl, hp0, hs0, hl0⟩
              · exact ⟨p1, u1, rfl, hp1, hs1, hl1⟩
            iterate 21 walk1
            dsimp only
            refine item_list (hrow.at fun o e => F.keep _ _ e) (by rw [fm2]; omega) (by rw [fm2]; omega) (by rw [fm2]; exact hkk ▸ hpk) ?_
            iterate 9 walk1
            dsimp only
            refine slice_any (s := ⟨h6, g, dr, _, os⟩) F N (hpl.at fun o e => F.keep _ _ e) (.int _ _) (.int _ _) (fun h8 F8 N8 => ?_) (hsz := by rw [List.size_toArray, strs_len hps, hpz]; decide)
            iterate 1 walk1
            have hsl : StrsAre (slicePick uk.toArray (some (f : Int)) (some ((l : Int) + 1)) none).toList ((([x0, x1].getD kk []).drop f).take (l + 1 - f)) := by
              rw [show ((l : Int) + 1) = ((l + 1 : Nat) : Int) by omega, slicePick_run uk.toArray f (l + 1) (by rw [List.size_toArray, strs_len hps, hpz]; omega) (by omega)]
              simpa using strs_take (strs_drop hps f) (l + 1 - f)
            refine join_listW (News.isList N8 (.head _)) hsl (by decide) ?sz fun t8 k8 => ?_
            case sz =>
              have hin : ∀ y ∈ (([x0, x1].getD kk []).drop f).take (l + 1 - f), y.length ≤ 100 := fun y hy => by
                have hy1 := List.mem_of_mem_drop (List.mem_of_mem_take hy)
                have : kk = 0 ∨ kk = 1 := by omega
                rcases this with h | h <;> rw [h] at hy1
                · exact hsum y (List.mem_append.mpr (.inl hy1))
                · exact hsum y (List.mem_append.mpr (.inr hy1))
              have h1 := sum_le _ 100 hin
              have h2 : ((([x0, x1].getD kk []).drop f).take (l + 1 - f)).length ≤ 7 := by rw [List.length_take, List.length_drop, hpz]; omega
              omega
            iterate 1 walk1
            have hseg := htx kk f l hk2 hfl hl7
            refine ⟨X.keeps F8.keep, wpAny_call (check_call (x := segT [x0, x1] kk f l) (X.keeps F8.keep) (T.keeps F8.keep) hseg.1 hseg.2.1 hseg.2.2 (by omega) hBh (by omega) fun s1 k1 => ?_)⟩
            have F9 := k1.fr F8
            have N9 := k1.news (news_tail N8)
            have P9 : Gp s s1 := (gp.trans (Gp.eqs (s' := ⟨h8, g, dr, k8, os⟩) rfl rfl rfl)).trans k1.gp
            clear F8 N8 k1 F N Lm skip_
            obtain ⟨h9, g9, dr9, tk9, os9⟩ := s1
            dsimp only at F9 N9 ⊢
            refine stN F9 N9 fun h10 F N => ?_
            rw [mk_set] at F
            have hD10 : h10.IsList D us := list_same hD1 hDe' (N _ (.head _)).1
            clear F9 N9
            obtain ⟨ck, hck⟩ : ∃ ck, ck = check (segT [x0, x1] kk f l) := ⟨_, rfl⟩
            rw [← hck] at F
            iterate 8 walk1
            try refine wpAny_truthy_bool ?_
            cases ck with
            | true =>
              rw [if_neg (show ¬ (true != true) = true by decide), if_neg (show ¬ false = true by decide)]
              refine wpAny_execs_nil ?_
              iterate 5 walk1
              rw [if_pos (show (true = true) from rfl)]
              iterate 6 walk1
              refine wpAny_setItem_list (k := (f : Int)) hD10 (by omega) (by omega) (by rw [hz]; omega) (fun h11 hD11 hs11 => ?_)
              have F11 := F.change hs11 hDL hD0
              obtain ⟨o11, ho11, hc11⟩ := id hD11
              have N11 : News s.heap L h11 ((D, o11) :: restL s.heap hp' [L, D]) := fun q hq => by
                rcases List.mem_cons.mp hq with rfl | hq
                · exact ⟨ho11, hDL, hD0⟩
                · exact ⟨(hs11.2 q.1 (restL_ne (.tail _ (.head _)) q hq)).trans (N q (.tail _ hq)).1, (N q (.tail _ hq)).2⟩
              clear F N hs11 hc11 ho11 hD10
              iterate 5 walk1
              refine wpAny_setItem_list (k := (l : Int)) hD11 (by omega) (by omega) (by rw [Array.size_setIfInBounds, hz]; omega) (fun h12 hD12 hs12 => ?_)
              have F12 := F11.change hs12 hDL hD0
              obtain ⟨o12, ho12, hc12⟩ := id hD12
              have N12 : News s.heap L h12 ((D, o12) :: restL s.heap hp' [L, D]) := fun q hq => by
                rcases List.mem_cons.mp hq with rfl | hq
                · exact ⟨ho12, hDL, hD0⟩
                · exact ⟨(hs12.2 q.1 (restL_ne (.tail _ (.head _)) q hq)).trans (N11 q (.tail _ hq)).1, (N11 q (.tail _ hq)).2⟩
              iterate 3 refine wpAny_execs_nil ?_
              refine hPP _ _ ?_
              refine close ⟨h12, g9, dr9, _, os9⟩ _ o12 _ _ (P9.trans (.eqs rfl rfl rfl)) ?_ (by rw [Array.size_setIfInBounds, Array.size_setIfInBounds, hz]) hD12 N12 F12
              have e1 : mateStep ns [x0, x1] f m l = (m.set f l).set l f := by
                unfold mateStep
                rw [if_pos ⟨ha, hb2, hb3, by rw [← hkk, ← hck]⟩]
              rw [e1, Array.toList_setIfInBounds, Array.toList_setIfInBounds]
              exact ints_set (ints_set hI f l tv1) l f tv0
            | false =>
              rw [if_pos (show (false != true) = true by decide)]
              iterate 5 walk1
              refine wpAny_truthy_bool ?_
              rw [if_neg (show ¬ (false != false) = true by decide), if_neg (show ¬ false = true by decide)]
              refine wpAny_execs_nil ?_
              iterate 5 walk1
              rw [if_neg (show ¬ false = true by decide)]
              iterate 3 refine wpAny_execs_nil ?_
              refine hPP _ _ ?_
              exact close ⟨h10, g9, dr9, _, os9⟩ us ep _ _ (P9.trans (.eqs rfl rfl rfl)) (by rw [e0 fun z => by rw [← hkk, ← hck] at z; exact absurd z.2.2.2 (by decide)]; exact hI) hz hD10 N F
          · rw [if_neg (show ¬ ((ns.getD (l : Int).toNat 0).fmod 4 == (ns.getD (f : Int).toNat 0).fmod 4 + 2) = true by rw [fm4, fm4]; exact fun z => hb3 (beq_iff_eq.mp z))]
            try rw [if_neg (by decide)]
            refine wpAny_execs_nil ?_
            refine wpAny_execs_nil ?_
            refine hPP _ _ ?_
            exact skip_ (e0 fun z => hb3 z.2.2.1) _ rfl rfl rfl rfl
        · rw [if_neg (show ¬ decide ((ns.getD (f : Int).toNat 0).fmod 4 < 2) = true by rw [fm4]; simpa using hb2), if_neg (by decide)]
          refine wpAny_execs_nil ?_
          refine wpAny_execs_nil ?_
          refine hPP _ _ ?_
          exact skip_ (e0 fun z => hb2 z.2.1) _ rfl rfl rfl rfl
      · rw [if_neg (show ¬ decide (m.getD (f : Int).toNat 0 < 0) = true by simpa using ha), if_neg (by decide)]
        refine wpAny_execs_nil ?_
        refine wpAny_execs_nil ?_
        refine hPP _ _ ?_
        exact skip_ (e0 fun z => ha z.1) _ rfl rfl rfl rfl
end Mine
end
section
theorem Mine.walk_reset_N1 : True := by
  w_top off
  trivial
open PySem PySem.W PyProof.Rows PySem.Calls
set_option maxRecDepth 100000
set_option maxHeartbeats 2000000
namespace Mine
theorem mk_arg3 (k1 k2 k3 : Str) (v1 v2 v3 : Value) : (fun y => [(k1, v1), (k2, v2), (k3, v3)].reverse.lookup y) = mk [(k3, some v3), (k2, some v2), (k1, some v1)] := by
  funext y
  show List.lookup y [(k3, v3), (k2, v2), (k1, v1)] = if y = k3 then some v3 else if y = k2 then some v2 else if y = k1 then some v1 else none
  have e : ∀ a : Str, (y == a) = decide (y = a) := fun a => by
    by_cases h : y = a
    · rw [decide_eq_true h]; exact beq_iff_eq.mpr h
    · rw [decide_eq_false h]; exact beq_eq_false_iff_ne.mpr h
  simp only [List.lookup, e]
  by_cases h3 : y = k3
  · simp [h3]
  · by_cases h2 : y = k2
    · simp [h3, h2]; split <;> simp_all
    · by_cases h1 : y = k1
      · simp [h3, h2, h1]; split <;> simp_all
      · simp [h3, h2, h1]
def po (n : Int) : Str := Txt.mul (Str.ofString "(") n
def pc (n : Int) : Str := Txt.mul (Str.ofString ")") n
def tA (x : Str) (a b : Int) : Str := po a ++ x ++ Str.ofString "(\"" ++ pc b ++ Str.ofString ")"
def tB (x : Str) (a b : Int) : Str := po a ++ Str.ofString "(" ++ x ++ pc b
def tF (x : Str) (a b : Int) : Str := po (a - 1) ++ x ++ pc b
def tC (x : Str) (a b : Int) : Str := tF x a b ++ Str.ofString ")"
def tD (x : Str) (a b : Int) : Str := Str.ofString "()" ++ tF x a b ++ Str.ofString "(()"
structure OkT (x : Str) : Prop where
  a : x.cps.all (· < 128) = true
  b : x.cps.size ≤ 1000
  c : (strip x).cps.all (· < 128) = true
theorem taken_call {prog : Program} {w : World} {A : Around} {s : Shared} {R : Result → Shared → Prop} {p : Program} {loose : List Str} {mean : ExcName → Option Value} {mg mb : Str → Option Value} {x : Str} {tx ta tb : Tok} {a b : Int}
    (X : (hd.heap_39 w.params).In s.heap) (T : Top p loose mean mg mb s.heap) (ha : 0 ≤ a ∧ a ≤ 7) (hb : 0 ≤ b ∧ b ≤ 7) (hx : x.length ≤ 100)
    (hA : OkT (tA x a b) ∧ check (tA x a b) = true) (hB : OkT (tB x a b) ∧ check (tB x a b) = false) (hC : a > 0 → (OkT (tC x a b) ∧ check (tC x a b) = false) ∧ OkT (tD x a b) ∧ check (tD x a b) = false)
    (hdp : A.depth + 60 < recursionLimit) (hh : A.handled = none) (hu : A.units + 110 < cLine)
    (hR : ∀ s', Kp s s' → R (.ok (.ret (.bool true))) s') :
    codeAny (model prog w) A (.call (.ref 63) ⟨[.str x tx, .int a ta, .int b tb], []⟩) R s := by
  refine' enter (K := hd.heap_39 w.params) X T.nolimit ?k6 ?k7 (by omega) ?k9 ?kB ?_ ?c2 ?c3 ?c4 ?c5
  case k6 => k_is
  case k7 => k_is
  case k9 => exact BindsTo.of_eq rfl
  case kB => exact locs rfl
  case c2 => exact rfl
  case c3 => exact rfl
  case c4 => exact rfl
  case c5 => decide
  intro h₁ L hL F
  replace F : Fr s.heap L h₁ (mk [("opened", some (.int b tb)), ("closed", some (.int a ta)), ("text", some (.str x tx))]) := mk_arg3 _ _ _ _ _ _ ▸ F
  have N : News s.heap L h₁ [] := News.nil
  generalize hB' : Around.deeper A _ = B
  have hBh : B.handled = none := by rw [← hB']; exact hh
  have hBd : B.depth = A.depth + 1 := by rw [← hB']; rfl
  have hBu : B.units = A.units + 3 := by rw [← hB']; rfl
  clear hB'
  have lpo : ∀ n : Int, n ≤ 7 → (po n).length ≤ 7 := fun n hn => len_mul_one (c := 40) (by decide) hn
  have lpc : ∀ n : Int, n ≤ 7 → (pc n).length ≤ 7 := fun n hn => len_mul_one (c := 41) (by decide) hn
  have la := lpo a ha.2
  have lb := lpc b hb.2
  have la1 := lpo (a - 1) (by omega)
  iterate 5 walk1
  refine SB.mul (mulOk_of 1 7 (by decide) hb.2 (by omega) (by decide) (by decide)) (fun t1 k1 => ?_)
  refine stN F N fun h2 F N => ?_
  rw [mk_set] at F
  have sz : ∀ (u v : Str) (n m : Nat), u.length ≤ n → v.length ≤ m → n + m ≤ 1000 → u.length + v.length ≤ sizeLine := fun u v n m h1 h2 h3 => by rw [sizeLine_eq]; omega
  have l2 : (po a ++ x).length ≤ 107 := by rw [app_len]; omega
  have l3 : (po a ++ x ++ Str.ofString "(\"").length ≤ 109 := by rw [app_len]; exact Nat.add_le_add l2 (show _ ≤ 2 by decide)
  have l4 : (po a ++ x ++ Str.ofString "(\"" ++ pc b).length ≤ 116 := by rw [app_len]; exact Nat.add_le_add l3 lb
  have m2 : (po a ++ Str.ofString "(").length ≤ 8 := by rw [app_len]; exact Nat.add_le_add la (show _ ≤ 1 by decide)
  have m3 : (po a ++ Str.ofString "(" ++ x).length ≤ 108 := by rw [app_len]; exact Nat.add_le_add m2 hx
  have n2 : (po (a - 1) ++ x).length ≤ 107 := by rw [app_len]; exact Nat.add_le_add la1 hx
  have n3 : (tF x a b).length ≤ 114 := by unfold tF; rw [app_len]; exact Nat.add_le_add n2 lb
  have n4 : (Str.ofString "()" ++ tF x a b).length ≤ 116 := by rw [app_len]; exact Nat.add_le_add (show _ ≤ 2 by decide) n3
  iterate 14 walk1
  refine SB.mul (mulOk_of 1 7 (by decide) ha.2 (by omega) (by decide) (by decide)) (fun t2 k2 => ?_)
  iterate 1 walk1
  refine PyProof.Rows.add_str (fun t3 k3 => ?_) (sz _ _ 7 100 la hx (by decide))
  iterate 1 walk1
  refine PyProof.Rows.add_str (fun t4 k4 => ?_) (sz _ _ 107 2 l2 (by decide) (by decide))
  iterate 1 walk1
  refine PyProof.Rows.add_str (fun t5 k5 => ?_) (sz _ _ 109 7 l3 lb (by decide))
  iterate 1 walk1
  refine PyProof.Rows.add_str (fun t6 k6 => ?_) (sz _ _ 116 1 l4 (by decide) (by decide))
  iterate 1 walk1
  refine ⟨X.keeps F.keep, wpAny_call (check_call (x := tA x a b) (X.keeps F.keep) (T.keeps F.keep) hA.1.a hA.1.b hA.1.c (by omega) hBh (by omega) fun s1 kp => ?_)⟩
  have F9 := kp.fr F
  have N9 := kp.news N
  have P9 : Gp s s1 := (Gp.eqs (s := s) (s' := ⟨h2, s.gens, s.drawn, k6, s.os⟩) rfl rfl rfl).trans kp.gp
  clear F N kp
  obtain ⟨h9, g9, dr9, tk9, os9⟩ := s1
  dsimp only at F9 N9 ⊢
  rw [hA.2]
  iterate 3 walk1
  rw [if_neg (show ¬ (true != true) = true by decide)]
  refine wpAny_execs_nil ?_
  clear la l2 l3 l4
  have la := lpo a ha.2
  iterate 13 walk1
  refine SB.mul (mulOk_of 1 7 (by decide) ha.2 (by omega) (by decide) (by decide)) (fun t2 k2 => ?_)
  iterate 1 walk1
  refine PyProof.Rows.add_str (fun t3 k3 => ?_) (sz _ _ 7 1 la (by decide) (by decide))
  iterate 1 walk1
  refine PyProof.Rows.add_str (fun t4 k4 => ?_) (sz _ _ 8 100 m2 hx (by decide))
  iterate 1 walk1
  refine PyProof.Rows.add_str (fun t5 k5 => ?_) (sz _ _ 108 7 m3 lb (by decide))
  iterate 1 walk1
  refine ⟨X.keeps F9.keep, wpAny_call (check_call (x := tB x a b) (X.keeps F9.keep) (T.keeps F9.keep) hB.1.a hB.1.b hB.1.c (by omega) hBh (by omega) fun s1 kp => ?_)⟩
  have F := kp.fr F9
  have N := kp.news N9
  have P := (P9.trans (Gp.eqs (s' := ⟨h9, g9, dr9, k5, os9⟩) rfl rfl rfl)).trans kp.gp
  clear F9 N9 kp P9
  obtain ⟨h3, g, dr, tk, os⟩ := s1
  dsimp only at F N ⊢
  rw [hB.2]
  iterate 3 walk1
  rw [if_neg (show ¬ (false != false) = true by decide)]
  refine wpAny_execs_nil ?_
  iterate 6 walk1
  refine wpAny_truthy_bool ?_
  by_cases h0 : 0 < a
  · rw [if_pos (decide_eq_true h0)]
    have hC' := hC h0
    clear m2 m3 la
    dsimp only
    iterate 10 walk1
    refine SB.mul (mulOk_of 1 7 (by decide) (by omega) (by omega) (by decide) (by decide)) (fun t2 k2 => ?_)
    iterate 1 walk1
    refine PyProof.Rows.add_str (fun t3 k3 => ?_) (sz _ _ 7 100 la1 hx (by decide))
    iterate 1 walk1
    refine PyProof.Rows.add_str (fun t4 k4 => ?_) (sz _ _ 107 7 n2 lb (by decide))
    refine stN F N fun h4 F N => ?_
    rw [mk_set] at F
    refine wpAny_execs_cons (wpAny_For ?_)
    iterate 5 walk1
    refine PyProof.Rows.add_str (fun t5 k5 => ?_) (sz _ _ 114 1 n3 (by decide) (by decide))
    iterate 5 walk1
    refine PyProof.Rows.add_str (fun t6 k6 => ?_) (sz _ _ 2 114 (by decide) n3 (by decide))
    iterate 1 walk1
    refine PyProof.Rows.add_str (fun t7 k7 => ?_) (sz _ _ 116 3 n4 (by decide) (by decide))
    iterate 1 walk1
    refine newList_K F N (fun D h5 F N _ => ?_) (by size_fits)
    rw [mk_pad _ "worse" rfl] at F
    have hDL : D ≠ L := (N _ (.head _)).2.1
    have hD0 : s.heap.get? D = none := (N _ (.head _)).2.2
    have hDI : D ≠ h5.objs.size := Nat.ne_of_lt (Heap.lt_size (N _ (.head _)).1)
    have hLI : L ≠ h5.objs.size := Nat.ne_of_lt F.ns.lt
    have h0I : s.heap.objs.size ≤ h5.objs.size := by have := F.ns.lt; have h' : L < h5.objs.size := this; omega
    refine wpAny_pyIter_list (News.isList N (.head _)) ?_
    obtain ⟨oD, hoD⟩ : ∃ oD, oD = listOf [Value.str (tC x a b) t5, Value.str (tD x a b) t7].toArray 0 := ⟨_, rfl⟩
    have hoL : ∀ h : Heap, h.get? D = some oD → h.IsList D [Value.str (tC x a b) t5, Value.str (tD x a b) t7].toArray := fun h e => ⟨oD, e, by rw [hoD], 0, by rw [hoD]⟩
    have N' : News s.heap L h5 [(D, oD)] := by rw [hoD]; exact N
    clear N hoD
    refine for_walks (Walks.list hBh h5.objs.size D hDI [Value.str (tC x a b) t5, Value.str (tD x a b) t7].toArray) (fun j s' => Gp s s' ∧ ∃ wv, News s.heap L s'.heap [(D, oD)] ∧
      Fr s.heap L s'.heap (mk [("opened", some (.int b tb)), ("closed", some (.int a ta)), ("text", some (.str x tx)), ("shut", some (.str (pc b) t1)), ("few", some (.str (tF x a b) t4)), ("worse", wv)])) ?hJ ?step ?fin ?h0 ?st
    case hJ =>
      rintro j s1 h' tk ⟨g, wv, N1, F1⟩ hk
      obtain ⟨z1, z2, z3⟩ := j_frame (tk := tk) g N1 F1 hDI hLI h0I hk
      exact ⟨z1, wv, z2, z3⟩
    case st => exact ⟨⟨_, Heap.get?_push_size _ rfl, rfl, rfl⟩, hoL _ (Heap.get?_push_of_some _ (N' _ (.head _)).1)⟩
    case h0 => exact ⟨P.trans (.eqs rfl rfl rfl), none, news_off N' fun q _ e => Heap.get?_push_of_some _ e, fr_off F fun b o e _ => Heap.get?_push_of_some _ e⟩
    case fin =>
      rintro ⟨hp, g, dr, tk, os⟩ ⟨gp, wv, N1, F1⟩
      dsimp only at N1 F1
      refine wpAny_execs_nil ?_
      refine wpAny_execs_nil ?_
      iterate 3 walk1
      exact hR _ (.of F1.keep (gp.trans (.eqs rfl rfl rfl)))
    case step =>
      clear F N' P
      rintro j v ⟨hp, g, dr, tk, os⟩ hj hv ⟨gp, wv, N1, F1⟩
      dsimp only at N1 F1
      obtain ⟨y, ty, rfl, hy, hyc⟩ : ∃ y ty, v = .str y ty ∧ OkT y ∧ check y = false := by
        have hj2 : j < 2 := hj
        have : j = 0 ∨ j = 1 := by omega
        rcases this with h | h <;> subst h
        · exact ⟨tC x a b, t5, by simpa using hv.symm, hC'.1.1, hC'.1.2⟩
        · exact ⟨tD x a b, t7, by simpa using hv.symm, hC'.2.1, hC'.2.2⟩
      have kB := F1.keep
      have N2 : News s.heap L hp ((D, oD) :: restL s.heap hp [L, D]) := news_cons (N1 _ (.head _)).1 hDL hD0 (restL_news (.head _))
      have N2' := (N1 _ (.head _)).1
      clear N1
      refine wpAny_assign_Name (stN F1 N2 fun h6 F N => ?_)
      rw [mk_set] at F
      clear F1 N2
      iterate 10 walk1
      refine ⟨X.keeps F.keep, wpAny_call (check_call (x := y) (X.keeps F.keep) (T.keeps F.keep) hy.a hy.b hy.c (by omega) hBh (by omega) fun s1 kp => ?_)⟩
      have F9 := kp.fr F
      have N9 := kp.news N
      have P9 := (gp.trans (Gp.eqs (s' := ⟨h6, g, dr, _, os⟩) rfl rfl rfl)).trans kp.gp
      clear F N kp
      obtain ⟨h9, g9, dr9, tk9, os9⟩ := s1
      dsimp only at F9 N9 ⊢
      rw [hyc]
      iterate 3 walk1
      rw [if_neg (show ¬ (false != false) = true by decide)]
      iterate 2 refine wpAny_execs_nil ?_
      have kb := restL_back kB F9.keep (news_tail N9)
      refine ⟨fun b hb o e => ?_, P9.trans (.eqs rfl rfl rfl), _, fun q hq => by rw [List.mem_singleton.mp hq]; exact N9 _ (.head _), F9⟩
      rcases List.mem_cons.mp hb with rfl | hb
      · exact kb _ o (fun hm => by
          rcases List.mem_cons.mp hm with hm | hm
          · exact hLI hm.symm
          · exact hDI (List.mem_singleton.mp hm).symm) e
      · rw [List.mem_singleton.mp hb] at e ⊢
        have z := (N2' : hp.get? D = some oD)
        rw [z] at e; cases e
        exact (N9 _ (.head _)).1
  · rw [if_neg (show ¬ decide (0 < a) = true by simpa using h0)]
    refine wpAny_execs_nil ?_
    iterate 3 walk1
    exact hR _ (.of F.keep (P.trans (.eqs rfl rfl rfl)))
end Mine
end
section
theorem Mine.walk_reset_W0 : True := by
  w_top off
  trivial
open PySem PySem.W PyProof.Rows PySem.Calls
set_option maxRecDepth 100000
set_option maxHeartbeats 2000000
namespace Mine
/-- the law's own names -/
def lloc (order rows opened closed forms place size spot told lone closers openers : Option Value) : List (Str × Option Value) :=
  [("order", order), ("rows", rows), ("opened", opened), ("closed", closed), ("forms", forms), ("place", place), ("size", size), ("spot", spot), ("told", told), ("lone", lone), ("closers", closers), ("openers", openers)]
/-- the law's cells, at L+1 .. L+8 -/
structure Cs (L : Nat) (h : Heap) (v : List (Option Value)) : Prop where
  at_ : ∀ k, 1 ≤ k → k ≤ 8 → h.IsCell (L + k) (v.getD k none)
theorem Cs.of8 {L : Nat} {h : Heap} {v1 v2 v3 v4 v5 v6 v7 v8 : Option Value} (c1 : h.IsCell (L + 1) v1) (c2 : h.IsCell (L + 2) v2) (c3 : h.IsCell (L + 3) v3) (c4 : h.IsCell (L + 4) v4) (c5 : h.IsCell (L + 5) v5) (c6 : h.IsCell (L + 6) v6) (c7 : h.IsCell (L + 7) v7) (c8 : h.IsCell (L + 8) v8) :
    Cs L h [none, v1, v2, v3, v4, v5, v6, v7, v8] := by
  refine ⟨fun k h1 h8 => ?_⟩
  match k, h1, h8 with
  | 1, _, _ => exact c1
  | 2, _, _ => exact c2
  | 3, _, _ => exact c3
  | 4, _, _ => exact c4
  | 5, _, _ => exact c5
  | 6, _, _ => exact c6
  | 7, _, _ => exact c7
  | 8, _, _ => exact c8
  | n + 9, _, h => exact absurd (Nat.le_trans (Nat.le_add_left 9 n) h) (by decide)
theorem Cs.keep {L : Nat} {h h' : Heap} {v : List (Option Value)} (C : Cs L h v) (hk : ∀ b o, L < b → b ≤ L + 8 → h.get? b = some o → h'.get? b = some o) : Cs L h' v :=
  ⟨fun k h1 h8 => let ⟨o, ho, hd⟩ := C.at_ k h1 h8; ⟨o, hk _ o (Nat.lt_add_of_pos_right h1) (Nat.add_le_add_left h8 L) ho, hd⟩⟩
theorem Cs.set {L : Nat} {h h' : Heap} {v : List (Option Value)} {k : Nat} {x : Option Value} (C : Cs L h v) (hl : v.length = 9) (h1 : 1 ≤ k) (h8 : k ≤ 8) (hc : h'.IsCell (L + k) x) (hs : Heap.SameBut (L + k) h h') : Cs L h' (v.set k x) := by
  refine ⟨fun j hj1 hj8 => ?_⟩
  by_cases e : j = k
  · subst e
    have : (v.set j x).getD j none = x := by rw [List.getD_eq_getElem?_getD, List.getElem?_set_self (by omega)]; rfl
    rw [this]; exact hc
  · have : (v.set k x).getD j none = v.getD j none := by rw [List.getD_eq_getElem?_getD, List.getD_eq_getElem?_getD, List.getElem?_set_ne (Ne.symm e)]
    rw [this]
    obtain ⟨o, ho, hd⟩ := C.at_ j hj1 hj8
    exact ⟨o, (hs.2 _ (by intro z; exact e (Nat.add_left_cancel z))).trans ho, hd⟩
/-- the law's state between two statements -/
structure LSt (s₁ : Shared) (L : Nat) (loc : List (Str × Option Value)) (v : List (Option Value)) (s : Shared) : Prop where
  gp : Gp s₁ s
  fr : Fr s₁.heap L s.heap (Mine.mk loc)
  cs : Cs L s.heap v
  len : v.length = 9
  top : L + 8 < s.heap.objs.size
/-- not one of the law's own frame and cells -/
def Off (L b : Nat) : Prop := ∀ k, k ≤ 8 → b ≠ L + k
/-- objects of the law's own making -/
def Own (h₀ : Heap) (L : Nat) (h : Heap) (l : List (Addr × Obj)) : Prop := ∀ p ∈ l, h.get? p.1 = some p.2 ∧ Off L p.1 ∧ h₀.get? p.1 = none
theorem Own.nil {h₀ : Heap} {L : Nat} {h : Heap} : Own h₀ L h [] := fun _ hp => nomatch hp
theorem Own.news {h₀ : Heap} {L : Nat} {h : Heap} {l : List (Addr × Obj)} (O : Own h₀ L h l) : News h₀ L h l := fun p hp => ⟨(O p hp).1, (O p hp).2.1 0 (by decide), (O p hp).2.2⟩
theorem Own.keep {h₀ : Heap} {L : Nat} {h h' : Heap} {l : List (Addr × Obj)} (O : Own h₀ L h l) (hk : ∀ b o, Off L b → h.get? b = some o → h'.get? b = some o) : Own h₀ L h' l := fun p hp => ⟨hk _ _ (O p hp).2.1 (O p hp).1, (O p hp).2⟩
theorem Own.cons {h₀ : Heap} {L : Nat} {h : Heap} {l : List (Addr × Obj)} {D : Addr} {o : Obj} (a : h.get? D = some o) (b : Off L D) (c : h₀.get? D = none) (O : Own h₀ L h l) : Own h₀ L h ((D, o) :: l) := fun p hp => by
  rcases List.mem_cons.mp hp with rfl | hp
  · exact ⟨a, b, c⟩
  · exact O p hp
theorem Own.tail {h₀ : Heap} {L : Nat} {h : Heap} {l : List (Addr × Obj)} {p : Addr × Obj} (O : Own h₀ L h (p :: l)) : Own h₀ L h l := fun q hq => O q (.tail _ hq)
theorem Own.list {h₀ : Heap} {L : Nat} {h : Heap} {l : List (Addr × Obj)} {D : Addr} {us : Array Value} {n : Nat} (O : Own h₀ L h l) (hm : (D, listOf us n) ∈ l) : h.IsList D us := ⟨_, (O _ hm).1, rfl, _, rfl⟩
theorem LSt.off {s₁ : Shared} {L : Nat} {loc : List (Str × Option Value)} {v : List (Option Value)} {s : Shared} (S : LSt s₁ L loc v s) {D : Nat} (h : s.heap.get? D = none) : Off L D := by
  intro k hk e
  subst e
  cases k with
  | zero => obtain ⟨o, _, _, ho, _⟩ := S.fr.ns; rw [show L + 0 = L from rfl] at h; rw [h] at ho; cases ho
  | succ k => obtain ⟨o, ho, _⟩ := S.cs.at_ (k + 1) (Nat.succ_le_succ (Nat.zero_le k)) hk; rw [h] at ho; cases ho
theorem LSt.none0 {s₁ : Shared} {L : Nat} {loc : List (Str × Option Value)} {v : List (Option Value)} {s : Shared} (S : LSt s₁ L loc v s) {D : Nat} (h : s.heap.get? D = none) : s₁.heap.get? D = none := by
  cases e : s₁.heap.get? D with
  | none => rfl
  | some o => rw [S.fr.keep _ _ e] at h; cases h
theorem LSt.keep {s₁ : Shared} {L : Nat} {loc : List (Str × Option Value)} {v : List (Option Value)} {s s' : Shared} (S : LSt s₁ L loc v s) (hk : ∀ b o, s.heap.get? b = some o → s'.heap.get? b = some o) (g : Gp s s') : LSt s₁ L loc v s' := by
  refine ⟨S.gp.trans g, fr_off S.fr fun b o e _ => hk b o e, S.cs.keep fun b o _ _ e => hk b o e, S.len, ?_⟩
  obtain ⟨o, ho, _⟩ := S.cs.at_ 8 (by decide) (by decide)
  exact Heap.lt_size (hk _ _ ho)
theorem LSt.kp {s₁ : Shared} {L : Nat} {loc : List (Str × Option Value)} {v : List (Option Value)} {s s' : Shared} (S : LSt s₁ L loc v s) (k : Kp s s') : LSt s₁ L loc v s' := S.keep (fun b o e => k.heap b o e) k.gp
theorem LSt.setC {s₁ : Shared} {L : Nat} {loc : List (Str × Option Value)} {v : List (Option Value)} {s : Shared} {h' : Heap} {k : Nat} {x : Option Value} {tk : Nat} (S : LSt s₁ L loc v s) (h1 : 1 ≤ k) (h8 : k ≤ 8) (hc : h'.IsCell (L + k) x) (hs : Heap.SameBut (L + k) s.heap h') :
    LSt s₁ L loc (v.set k x) { s with heap := h', toks := tk } := by
  refine ⟨S.gp.trans (.eqs rfl rfl rfl), ?_, S.cs.set S.len h1 h8 hc hs, by rw [List.length_set]; exact S.len, by show L + 8 < h'.objs.size; rw [hs.1]; exact S.top⟩
  refine fr_off S.fr fun b o e hb => (hs.2 b (fun z => ?_)).trans e
  have hab : s₁.heap.objs.size ≤ L := S.fr.above
  rcases hb with hb | hb
  · have q : L = L + k := hb.symm.trans z
    omega
  · have hlt : b < s₁.heap.objs.size := Heap.lt_size hb
    have q : b = L + k := z
    rw [q] at hlt
    have hlt' : L + k < s₁.heap.objs.size := hlt
    omega
/-- a name of the law's own frame is set -/
theorem LSt.setN {s₁ : Shared} {L : Nat} {loc : List (Str × Option Value)} {v : List (Option Value)} {s : Shared} {h' : Heap} {tk : Nat} {n : Str} {x : Value} (S : LSt s₁ L loc v s) (F : Fr s₁.heap L h' (fun y => if y = n then some x else Mine.mk loc y)) (hs : Heap.SameBut L s.heap h') :
    LSt s₁ L (setL loc n x) v { s with heap := h', toks := tk } := by
  rw [mk_set] at F
  refine ⟨S.gp.trans (.eqs rfl rfl rfl), F, S.cs.keep fun b o hb _ e => (hs.2 b (Nat.ne_of_gt hb)).trans e, S.len, by show L + 8 < h'.objs.size; rw [hs.1]; exact S.top⟩
section
variable {M : Model} {A : Around} {E : Value → Shared → Prop} {s₁ s : Shared} {L : Nat} {loc : List (Str × Option Value)} {v : List (Option Value)} {env : Env} {n : Str} {x : Value} {Q : Unit → Shared → Prop}
theorem LSt.storeN (S : LSt s₁ L loc v s) (hl : env.kindOf n = some .local) (hf : env.locals = L)
    (h : ∀ h' tk, LSt s₁ L (setL loc n x) v ⟨h', s.gens, s.drawn, tk, s.os⟩ → (∀ b o, Off L b → s.heap.get? b = some o → h'.get? b = some o) → Q () ⟨h', s.gens, s.drawn, tk, s.os⟩)
    (hcl : (env.scope.kind == .class || (env.scope.kind == .module && env.locals != env.globals)) = false := by rfl) : wpAny M A (storeName env n x) Q E s := by
  have hns : s.heap.Ns env.locals (Mine.mk loc) := by rw [hf]; exact S.fr.ns
  refine wpAny_storeName_local hl hns (fun h' hn hs => ?_) hcl
  rw [hf] at hn hs
  have F := S.fr.set hn hs
  exact h h' _ (S.setN F hs) fun b o hb e => (hs.2 b (hb 0 (by decide))).trans e
theorem LSt.storeC {k : Nat} (S : LSt s₁ L loc v s) (hk : env.scope.kind = .function) (hl : env.kindOf n = some .cell) (hc : env.cells.lookup n = some (L + k)) (h1 : 1 ≤ k) (h8 : k ≤ 8)
    (h : ∀ h', LSt s₁ L loc (v.set k (some x)) ⟨h', s.gens, s.drawn, s.toks, s.os⟩ → (∀ b o, Off L b → s.heap.get? b = some o → h'.get? b = some o) → Q () ⟨h', s.gens, s.drawn, s.toks, s.os⟩) : wpAny M A (storeName env n x) Q E s := by
  refine wpAny_storeName_cell hk hl hc (S.cs.at_ k h1 h8) fun h' hv hs => ?_
  exact h h' (S.setC h1 h8 hv hs) fun b o hb e => (hs.2 b (hb k h8)).trans e
end
theorem slice_any' {prog : Program} {w : World} {A : Around} {E : Value → Shared → Prop} {s : Shared} {value slice : PySem.Expr} {l : Addr} {items : Array Value} {vl vu vk : Value} {lo hi st : Option Int} {ops : List Value} {Q : Value → Shared → Prop}
    (hl : s.heap.IsList l items) (pl : IsPart vl lo) (pu : IsPart vu hi) (pk : IsPart vk st) (h0 : st ≠ some 0)
    (h : ∀ h', (∀ b o, s.heap.get? b = some o → h'.get? b = some o) → h'.IsList (s.heap.objs.size + 1) (slicePick items lo hi st) → h'.get? (s.heap.objs.size + 1) = some (listOf (slicePick items lo hi st) 0) → Q (.ref (s.heap.objs.size + 1)) { s with heap := h' })
    (hsz : items.size ≤ sizeLine)
    (hs : subscripted slice false (.ref l) (.ref s.heap.objs.size) = operate ops (getItem (.ref l) (.ref s.heap.objs.size)) := by with_unfolding_all rfl) :
    wpAny (model prog w) A (subscriptTail value slice (.ref l) (.ref s.heap.objs.size)) Q E { s with heap := s.heap.push { cls := .type "slice", data := .fields #[vl, vu, vk] } } := by
  refine tail_any (Heap.IsList.typeIs (s := { s with heap := s.heap.push { cls := .type "slice", data := .fields #[vl, vu, vk] } }) (hl.push _)) slot_list_getitem.lookup
    (wpAny_getItem_list_slice (hl.push _) (Heap.IsSliceOf.new ..) pl pu pk h0 ?_ hsz) hs
  have e : (s.heap.push { cls := .type "slice", data := .fields #[vl, vu, vk] }).objs.size = s.heap.objs.size + 1 := Heap.size_push ..
  have g := Heap.get?_push_size (s.heap.push { cls := .type "slice", data := .fields #[vl, vu, vk] }) (o := { cls := .type "list", data := .seq (slicePick items lo hi st) }) rfl
  rw [e] at g
  have h' := h _ (fun b o z => Heap.get?_push_of_some _ (Heap.get?_push_of_some _ z)) ⟨_, g, rfl, _, rfl⟩ g
  rw [← e] at h'
  exact h'
theorem ints_of {P : Int → Prop} {l : List Value} {ys : List Value} (h : Paired (fun _ y => ∃ n t, y = .int n t ∧ P n) l ys) : ∃ cs, IntsAre ys cs ∧ ∀ n ∈ cs, P n := by
  induction h with
  | nil => exact ⟨[], .nil, fun _ h => nomatch h⟩
  | cons h _ ih =>
    obtain ⟨n, t, rfl, hp⟩ := h
    obtain ⟨cs, h1, h2⟩ := ih
    exact ⟨n :: cs, .cons n t h1, fun m hm => by
      rcases List.mem_cons.mp hm with rfl | hm
      · exact hp
      · exact h2 m hm⟩
theorem sum_ints' {prog : Program} {w : World} {A : Around} {E : Value → Shared → Prop} {s : Shared} {l : Addr} {vs : List Value} {ns : List Int} {Q : Value → Shared → Prop} (hh : A.handled = none) (hl : s.heap.IsList l vs.toArray) (hi : IntsAre vs ns)
    (h : ∀ h' tk t', (∀ b o, s.heap.get? b = some o → h'.get? b = some o) → Q (.int ns.sum t') { s with heap := h', toks := tk }) : wpAny (model prog w) A (call (.builtin "sum") [.ref l]) Q E s := by
  obtain ⟨xs, hx⟩ := hi.allInts.items
  have hl' : s.heap.IsList l (intItems xs) := hx ▸ hl
  refine sum_intListG hh hl' fun h' tk t' hk => ?_
  have e1 : ns = xs.toList.map (·.1) := by
    rw [← nums_intItems, ← hx]
    exact (show numsOf vs.toArray.toList = ns from hi.numsOf).symm
  have e2 : preSum (numAt xs) xs.size = ns.sum := by
    rw [preSum_eq, List.take_of_length_le (by simp), e1]
  rw [e2]
  exact h h' tk t' hk
theorem LSt.call {s₁ : Shared} {L : Nat} {loc : List (Str × Option Value)} {v : List (Option Value)} {h : Heap} {g : Array GenState} {d : Drawn} {t t' : Nat} {o : OsState} {s' : Shared} (S : LSt s₁ L loc v ⟨h, g, d, t, o⟩) (k : Kp ⟨h, g, d, t', o⟩ s') : LSt s₁ L loc v s' :=
  S.keep (s' := s') k.heap ((Gp.eqs (s := ⟨h, g, d, t, o⟩) (s' := ⟨h, g, d, t', o⟩) rfl rfl rfl).trans k.gp)
theorem list_obj {h : Heap} {D : Addr} {us : Array Value} (H : h.IsList D us) : ∃ o, h.get? D = some o ∧ ∀ h' : Heap, h'.get? D = some o → h'.IsList D us :=
  let ⟨o, ho, hc, n, hd⟩ := H; ⟨o, ho, fun _ e => ⟨o, e, hc, n, hd⟩⟩
/-- a predicate of ints, asked of values -/
def onInt (q : Int → Bool) : Value → Bool
  | Value.int n _ => q n
  | _ => false
theorem ints_filter {vs : List Value} {ns : List Int} (h : IntsAre vs ns) (q : Int → Bool) : IntsAre (vs.filter (onInt q)) (ns.filter q) := by
  induction h with
  | nil => exact .nil
  | cons n t _ ih =>
    by_cases hq : q n = true
    · rw [List.filter_cons_of_pos (show onInt q (Value.int n t) = true from hq), List.filter_cons_of_pos hq]; exact .cons _ _ ih
    · rw [List.filter_cons_of_neg (show ¬ onInt q (Value.int n t) = true from hq), List.filter_cons_of_neg hq]; exact ih
theorem ints_range {vs : List Value} {n : Nat} {a : Int} (hl : vs.length = n) (h : ∀ (j : Nat) v, vs[j]? = some v → ∃ t, v = Value.int (a + (j : Int) * 1) t) : IntsAre vs ((List.range n).map fun (j : Nat) => a + (j : Int)) := by
  induction n generalizing vs a with
  | zero => rw [List.eq_nil_of_length_eq_zero hl]; exact .nil
  | succ n ih =>
    cases vs with
    | nil => simp at hl
    | cons v vs =>
      rw [List.range_succ_eq_map, List.map_cons, List.map_map]
      obtain ⟨t, rfl⟩ := h 0 v rfl
      have e1 : a + ((0 : Nat) : Int) * 1 = a + ((0 : Nat) : Int) := by omega
      rw [e1]
      refine .cons _ _ ?_
      have := ih (vs := vs) (a := a + 1) (by simpa using hl) (fun j v e => by
        obtain ⟨t, ht⟩ := h (j + 1) v (by simpa using e)
        exact ⟨t, by rw [ht]; congr 1; push_cast; omega⟩)
      have e2 : ((fun (j : Nat) => a + (j : Int)) ∘ Nat.succ) = fun (j : Nat) => a + 1 + (j : Int) := by
        funext j; simp only [Function.comp]; push_cast; omega
      rw [e2]; exact this
theorem LSt.keepI {s₁ : Shared} {L : Nat} {loc : List (Str × Option Value)} {v : List (Option Value)} {s s' : Shared} {I : Nat} (S : LSt s₁ L loc v s) (hI : Off L I) (h0 : s₁.heap.get? I = none) (hk : ∀ b o, b ≠ I → s.heap.get? b = some o → s'.heap.get? b = some o) (g : Gp s s') : LSt s₁ L loc v s' := by
  have hb8 : ∀ k : Nat, k ≤ 8 → L + k ≠ I := fun k hk8 e => hI k hk8 e.symm
  refine ⟨S.gp.trans g, fr_off S.fr fun b o e hb => hk b o ?_ e, ⟨fun k h1 h8 => ?_⟩, S.len, ?_⟩
  · rintro rfl
    rcases hb with hb | hb
    · exact hI 0 (by decide) hb
    · rw [h0] at hb; cases hb
  · obtain ⟨o, ho, hd⟩ := S.cs.at_ k h1 h8
    exact ⟨o, hk _ _ (hb8 k h8) ho, hd⟩
  · obtain ⟨o, ho, hd⟩ := S.cs.at_ 8 (by decide) (by decide)
    exact Heap.lt_size (hk _ _ (hb8 8 (by decide)) ho)
theorem Own.keepI {h₀ : Heap} {L : Nat} {h h' : Heap} {l : List (Addr × Obj)} {I : Nat} (O : Own h₀ L h l) (hI : ∀ p ∈ l, p.1 ≠ I) (hk : ∀ b o, b ≠ I → h.get? b = some o → h'.get? b = some o) : Own h₀ L h' l := fun p hp => ⟨hk _ _ (hI p hp) (O p hp).1, (O p hp).2⟩
theorem Own.lt {h₀ : Heap} {L : Nat} {h : Heap} {l : List (Addr × Obj)} (O : Own h₀ L h l) : ∀ p ∈ l, p.1 ≠ h.objs.size := fun p hp => Nat.ne_of_lt (Heap.lt_size (O p hp).1)
/-- one more object, at the heap's end -/
theorem Own.push {h₀ : Heap} {L : Nat} {h : Heap} {l : List (Addr × Obj)} {o : Obj} (O : Own h₀ L h l) (a : Off L h.objs.size) (b : h₀.get? h.objs.size = none) (hf : o.isFreed = false) : Own h₀ L (h.push o) ((h.objs.size, o) :: l) :=
  (O.keep fun _ _ _ e => Heap.get?_push_of_some _ e).cons (Heap.get?_push_size _ hf) a b
theorem LSt.offS {s₁ : Shared} {L : Nat} {loc : List (Str × Option Value)} {v : List (Option Value)} {s : Shared} (S : LSt s₁ L loc v s) : Off L s.heap.objs.size := S.off (Heap.get?_none_of_le (Nat.le_refl _))
theorem LSt.noneS {s₁ : Shared} {L : Nat} {loc : List (Str × Option Value)} {v : List (Option Value)} {s : Shared} (S : LSt s₁ L loc v s) : s₁.heap.get? s.heap.objs.size = none := S.none0 (Heap.get?_none_of_le (Nat.le_refl _))
theorem LSt.pushS {s₁ : Shared} {L : Nat} {loc : List (Str × Option Value)} {v : List (Option Value)} {h : Heap} {g : Array GenState} {d : Drawn} {t t' : Nat} {os : OsState} {o : Obj} (S : LSt s₁ L loc v ⟨h, g, d, t, os⟩) : LSt s₁ L loc v ⟨h.push o, g, d, t', os⟩ := S.keep (fun b o e => Heap.get?_push_of_some _ e) (.eqs rfl rfl rfl)
theorem LSt.heapS {s₁ : Shared} {L : Nat} {loc : List (Str × Option Value)} {v : List (Option Value)} {h h' : Heap} {g : Array GenState} {d : Drawn} {t t' : Nat} {os : OsState} (S : LSt s₁ L loc v ⟨h, g, d, t, os⟩) (hk : ∀ b o, h.get? b = some o → h'.get? b = some o) : LSt s₁ L loc v ⟨h', g, d, t', os⟩ := S.keep hk (.eqs rfl rfl rfl)
end Mine
end
section
theorem Mine.walk_reset_Pl : True := by
  w_top off
  trivial
open PySem PySem.W PyProof.Rows PySem.Calls
set_option maxRecDepth 100000
namespace Mine
/-- the rows of the texts -/
def rowsOf (cs : List Int) : List (List Str) := [cs.map (part 0), cs.map (part 1)]
def cntQ (cs ms : List Int) (k p : Int) : Bool := cs.getD p.toNat 0 % 4 == k && decide (ms.getD p.toNat 0 < 0)
/-- how many brackets of a kind have no mate -/
def cnt (cs ms : List Int) (k : Int) : Nat := (((List.range 7).map fun (j : Nat) => 0 + (j : Int)).filter (cntQ cs ms k)).length
def msOf (cs : List Int) : List Int := matesF cs (rowsOf cs)
end Mine
namespace Mine
end Mine
namespace Mine
theorem cnt_le (cs ms : List Int) (k : Int) : cnt cs ms k ≤ 7 := by
  unfold cnt
  exact Nat.le_trans (List.length_filter_le _ _) (by simp)
end Mine
namespace Mine
def txt (cs : List Int) (j : Nat) : Str := Txt.join "" ((rowsOf cs).getD j [])
end Mine
namespace Mine
/-- the kind of a thing -/
def kap (cs : List Int) (ta : List Addr) (a : Addr) : Int := cs.getD (ta.idxOf a) 0 % 2
/-- the seven things stand -/
structure ThOk (h₀ : Heap) (L : Nat) (h : Heap) (cs : List Int) (ta : List Addr) : Prop where
  len : ta.length = 7
  nd : ta.Nodup
  at_ : ∀ a ∈ ta, ThingAt h a (kap cs ta a)
  off : ∀ a ∈ ta, Off L a ∧ h₀.get? a = none
theorem ThOk.keep {h₀ : Heap} {L : Nat} {h h' : Heap} {cs : List Int} {ta : List Addr} (X : ThOk h₀ L h cs ta) (hk : ∀ b o, Off L b → h.get? b = some o → h'.get? b = some o) : ThOk h₀ L h' cs ta :=
  ⟨X.len, X.nd, fun a ha => (X.at_ a ha).keeps fun o e => hk a o (X.off a ha).1 e, X.off⟩
/-- the comprehension's lists are things -/
theorem things_of {h₂ h : Heap} {cs : List Int} : ∀ {vs ys : List Value}, IntsAre vs cs → Paired (LstIs h₂ (fun v its => ∃ n u t, v = .int n u ∧ its = [Value.int (n % 2) t].toArray) h) vs ys → ys.Pairwise (· ≠ ·) →
    ∃ ta : List Addr, ys = ta.map Value.ref ∧ ta.length = cs.length ∧ ta.Nodup ∧ (∀ i a, ta[i]? = some a → ThingAt h a (cs.getD i 0 % 2)) ∧ ∀ a ∈ ta, h₂.get? a = none := by
  induction cs with
  | nil =>
    intro vs ys hi hp _
    cases hi; cases hp
    exact ⟨[], rfl, rfl, List.nodup_nil, fun i a h => by simp at h, fun a h => nomatch h⟩
  | cons c cs ih =>
    intro vs ys hi hp hw
    cases hi with
    | cons n t hi =>
    cases hp with
    | cons h1 hp =>
    obtain ⟨T, its, rfl, hT, hl, n', u, t', e1, rfl⟩ := h1
    cases e1
    obtain ⟨hw1, hw2⟩ := List.pairwise_cons.mp hw
    obtain ⟨ta, rfl, h2, h3, h4, h5⟩ := ih hi hp hw2
    refine ⟨T :: ta, rfl, by simp [h2], List.nodup_cons.mpr ⟨fun hm => hw1 (.ref T) (List.mem_map_of_mem hm) rfl, h3⟩, fun i a e => ?_, fun a ha => ?_⟩
    · cases i with
      | zero =>
        have e' : T = a := by simpa using e
        subst e'
        exact ⟨t', by simpa using hl⟩
      | succ i => exact by simpa using h4 i a (by simpa using e)
    · rcases List.mem_cons.mp ha with rfl | ha
      · exact hT
      · exact h5 a ha
end Mine
end
section
theorem Mine.walk_reset_W2 : True := by
  w_top off
  trivial
open PySem PySem.W PyProof.Rows PySem.Calls
set_option maxRecDepth 100000
namespace Mine
/-- a new list, its place not told -/
theorem newL {prog : Program} {w : World} {A : Around} {E : Value → Shared → Prop} {s : Shared} {vs : List Value} {Q : Value → Shared → Prop}
    (h : ∀ D h', s.heap.get? D = none → (∀ b o, s.heap.get? b = some o → h'.get? b = some o) → h'.get? D = some (listOf vs.toArray 0) → Q (.ref D) { s with heap := h' }) (hz : vs.toArray.size ≤ sizeLine := by size_fits) : wpAny (model prog w) A (newList vs) Q E s := by
  refine wpAny_newList ?_ 
  exact h _ _ (Heap.get?_none_of_le (Nat.le_refl _)) (fun _ _ e => Heap.get?_push_of_some _ e) (Heap.get?_push_size _ rfl)
/-- one of the stretches -/
structure Dat where
  lo : Nat
  hi : Nat
  cl : List Addr
  op : List Addr
structure Form extends Dat where
  fa : Addr
  ca : Addr
  oa : Addr
def FormAt (h : Heap) (f : Form) : Prop :=
  (∃ t u c, h.get? f.fa = some (listOf [Value.int f.lo t, .int f.hi u, .ref f.ca, .ref f.oa].toArray c)) ∧ (∃ c, h.get? f.ca = some (listOf (refs f.cl) c)) ∧ (∃ c, h.get? f.oa = some (listOf (refs f.op) c))
def adrs (fl : List Form) : List Addr := fl.flatMap fun f => [f.fa, f.ca, f.oa]
structure Fs (h8 h : Heap) (fl : List Form) : Prop where
  at_ : ∀ f ∈ fl, FormAt h f
  nd : (adrs fl).Nodup
  new : ∀ a ∈ adrs fl, h8.get? a = none
theorem mem_adrs {fl : List Form} {f : Form} (hf : f ∈ fl) : f.fa ∈ adrs fl ∧ f.ca ∈ adrs fl ∧ f.oa ∈ adrs fl :=
  ⟨List.mem_flatMap.mpr ⟨f, hf, .head _⟩, List.mem_flatMap.mpr ⟨f, hf, .tail _ (.head _)⟩, List.mem_flatMap.mpr ⟨f, hf, .tail _ (.tail _ (.head _))⟩⟩
theorem FormAt.keep {h h' : Heap} {f : Form} (X : FormAt h f) (k1 : ∀ o, h.get? f.fa = some o → h'.get? f.fa = some o) (k2 : ∀ o, h.get? f.ca = some o → h'.get? f.ca = some o) (k3 : ∀ o, h.get? f.oa = some o → h'.get? f.oa = some o) : FormAt h' f :=
  let ⟨⟨t, u, c, a⟩, ⟨c2, b⟩, ⟨c3, d⟩⟩ := X; ⟨⟨t, u, c, k1 _ a⟩, ⟨c2, k2 _ b⟩, ⟨c3, k3 _ d⟩⟩
theorem Fs.keep {h8 h h' : Heap} {fl : List Form} (X : Fs h8 h fl) (hk : ∀ b o, b ∈ adrs fl → h.get? b = some o → h'.get? b = some o) : Fs h8 h' fl :=
  ⟨fun f hf => (X.at_ f hf).keep (fun o e => hk _ o (mem_adrs hf).1 e) (fun o e => hk _ o (mem_adrs hf).2.1 e) (fun o e => hk _ o (mem_adrs hf).2.2 e), X.nd, X.new⟩
theorem Fs.live {h8 h : Heap} {fl : List Form} (X : Fs h8 h fl) : ∀ a ∈ adrs fl, ∃ o, h.get? a = some o := by
  intro a ha
  obtain ⟨f, hf, hm⟩ := List.mem_flatMap.mp ha
  obtain ⟨⟨t, u, c, e1⟩, ⟨c2, e2⟩, ⟨c3, e3⟩⟩ := X.at_ f hf
  rcases List.mem_cons.mp hm with rfl | hm
  · exact ⟨_, e1⟩
  rcases List.mem_cons.mp hm with rfl | hm
  · exact ⟨_, e2⟩
  · rw [List.mem_singleton.mp hm]; exact ⟨_, e3⟩
theorem Fs.not {h8 h : Heap} {fl : List Form} (X : Fs h8 h fl) {D : Addr} (hD : h.get? D = none) : D ∉ adrs fl := fun hm => by
  obtain ⟨o, ho⟩ := X.live D hm
  rw [hD] at ho; cases ho
theorem adrs_app (a b : List Form) : adrs (a ++ b) = adrs a ++ adrs b := by unfold adrs; rw [List.flatMap_append]
theorem Fs.snoc {h8 h : Heap} {fl : List Form} {f : Form} (X : Fs h8 h fl) (hf : FormAt h f) (h1 : f.fa ∉ adrs fl) (h2 : f.ca ∉ adrs fl) (h3 : f.oa ∉ adrs fl) (n1 : f.fa ≠ f.ca) (n2 : f.fa ≠ f.oa) (n3 : f.ca ≠ f.oa)
    (m1 : h8.get? f.fa = none) (m2 : h8.get? f.ca = none) (m3 : h8.get? f.oa = none) : Fs h8 h (fl ++ [f]) := by
  refine ⟨fun g hg => ?_, ?_, fun a ha => ?_⟩
  · rcases List.mem_append.mp hg with hg | hg
    · exact X.at_ g hg
    · rw [List.mem_singleton.mp hg]; exact hf
  · rw [adrs_app]
    refine List.nodup_append.mpr ⟨X.nd, ?_, fun a ha b hb => ?_⟩
    · show [f.fa, f.ca, f.oa].Nodup
      simp [n1, n2, n3]
    · rintro rfl
      have hb' : a ∈ [f.fa, f.ca, f.oa] := hb
      rcases List.mem_cons.mp hb' with rfl | hb
      · exact h1 ha
      rcases List.mem_cons.mp hb with rfl | hb
      · exact h2 ha
      · rw [List.mem_singleton.mp hb] at ha; exact h3 ha
  · rw [adrs_app] at ha
    rcases List.mem_append.mp ha with ha | ha
    · exact X.new a ha
    · have hb' : a ∈ [f.fa, f.ca, f.oa] := ha
      rcases List.mem_cons.mp hb' with rfl | hb
      · exact m1
      rcases List.mem_cons.mp hb with rfl | hb
      · exact m2
      · rw [List.mem_singleton.mp hb]; exact m3
/-- the stretch of one place -/
def dat0 (cs : List Int) (ta : List Addr) (p : Nat) : Dat :=
  if cs.getD p 0 % 4 < 2 then ⟨p, p + 1, [], [ta.getD p 0]⟩ else ⟨p, p + 1, [ta.getD p 0], []⟩
/-- the law's frame is set by hand, one more object is another -/
theorem LSt.back {s₁ : Shared} {L : Nat} {loc : List (Str × Option Value)} {v : List (Option Value)} {s s' : Shared} {df : Nat} {m : Str → Option Value} (S : LSt s₁ L loc v s) (F : Fr s₁.heap L s'.heap m) (hm : m = Mine.mk loc) (hd : Off L df) (hk : ∀ b o, b ∉ [L, df] → s.heap.get? b = some o → s'.heap.get? b = some o) (g : Gp s s') : LSt s₁ L loc v s' := by
  subst hm
  have hb8 : ∀ k : Nat, 1 ≤ k → k ≤ 8 → L + k ∉ [L, df] := fun k h1 hk8 hm => by
    rcases List.mem_cons.mp hm with e | e
    · omega
    · exact hd k hk8 (List.mem_singleton.mp e).symm
  refine ⟨S.gp.trans g, F, ⟨fun k h1 h8 => ?_⟩, S.len, ?_⟩
  · obtain ⟨o, ho, hd⟩ := S.cs.at_ k h1 h8
    exact ⟨o, hk _ _ (hb8 k h1 h8) ho, hd⟩
  · obtain ⟨o, ho, hd⟩ := S.cs.at_ 8 (by decide) (by decide)
    exact Heap.lt_size (hk _ _ (hb8 8 (by decide) (by decide)) ho)
/-- the same, the step knows that the iterator lives -/
theorem for_walks2 {prog : Program} {w : World} {A : Around} {R : Result → Shared → Prop} {target : Expr} {I : Addr} {fp : List Addr} {n : Nat} {P : Nat → Value → Prop} {St : Nat → Heap → Prop} {body orelse : List Stmt} {env : Env} {s : Shared}
    (W : Walks prog w A I fp [I] n P St) (J : Nat → Shared → Prop) (live : ∀ j h, St j h → ∀ b ∈ fp, ∃ o, h.get? b = some o)
    (hJ : ∀ j (s : Shared) h' tk, J j s → (∀ b o, b ≠ I → s.heap.get? b = some o → h'.get? b = some o) → J j { s with heap := h', toks := tk })
    (step : ∀ j v (s : Shared), j < n → P j v → J j s → (∀ b ∈ fp, ∃ o, s.heap.get? b = some o) → wpAny (model prog w) A (assign target env v) (fun _ s₂ => wpAny (model prog w) A (execs body env) (fun f s₃ => match f with
        | .next | .cont => (∀ b ∈ fp, ∀ o, s.heap.get? b = some o → s₃.heap.get? b = some o) ∧ J (j + 1) s₃
        | .brk => R (.ok .next) s₃
        | .ret v => R (.ok (.ret v)) s₃) (fun _ _ => False) s₂) (fun _ _ => False) s)
    (fin : ∀ s, J n s → wpAny (model prog w) A (execs orelse env) (fun f s₃ => R (.ok f) s₃) (fun _ _ => False) s)
    (h0 : J 0 s) (st : St 0 s.heap) (ht : ∀ v, letOwnedTupleGo target (.ref I) v = pure () := by intro _; rfl) : codeAny (model prog w) A (.forLoop target (.ref I) body orelse env) R s := by
  refine codeAny_forLoop (fun m s => ∃ j, m = n + 1 - j ∧ j ≤ n ∧ J j s ∧ St j s.heap) ?_ (n + 1) ⟨0, rfl, Nat.zero_le _, h0, st⟩ ht
  rintro m s ⟨j, rfl, hj, hJs, hSt⟩
  by_cases hlt : j < n
  · refine W.item j s _ _ hlt hSt fun v h' tk hP hSt' hk => ?_
    have hJ' := hJ j s h' tk hJs fun b o hb e => hk b o (fun hm => hb (List.mem_singleton.mp hm)) e
    refine wpAny_mono (step j v _ hlt hP hJ' (live _ _ hSt')) (fun _ s₂ h₂ => wpAny_mono h₂ (fun f s₃ h₃ => ?_) fun _ _ z => z.elim) fun _ _ z => z.elim
    cases f with
    | next => exact ⟨_, by omega, j + 1, rfl, hlt, h₃.2, W.frame _ _ _ hSt' h₃.1⟩
    | cont => exact ⟨_, by omega, j + 1, rfl, hlt, h₃.2, W.frame _ _ _ hSt' h₃.1⟩
    | brk => exact h₃
    | ret v => exact h₃
  · obtain rfl : j = n := by omega
    refine W.done s _ _ hSt fun h' tk hk => ?_
    exact wpAny_mono (fin _ (hJ j s h' tk hJs fun b o hb e => hk b o (fun hm => hb (List.mem_singleton.mp hm)) e)) (fun _ _ z => z) fun _ _ z => z.elim
def loneQ (m : List Int) (lo hi p : Nat) : Bool := !(decide ((lo : Int) ≤ m.getD p 0) && decide (m.getD p 0 < (hi : Int)))
def lones (m : List Int) (lo hi : Nat) : List Nat := (List.range' lo (hi - lo)).filter (loneQ m lo hi)
def lonesC (cs m : List Int) (ta : List Addr) (lo hi : Nat) : List Addr := ((lones m lo hi).filter fun p => decide (cs.getD p 0 % 4 > 1)).map fun p => ta.getD p 0
def lonesO (cs m : List Int) (ta : List Addr) (lo hi : Nat) : List Addr := ((lones m lo hi).filter fun p => decide (cs.getD p 0 % 4 < 2)).map fun p => ta.getD p 0
structure DatOk (cs m : List Int) (ta : List Addr) (d : Dat) : Prop where
  lt : d.lo < d.hi
  le : d.hi ≤ 7
  cl : d.cl = lonesC cs m ta d.lo d.hi
  op : d.op = lonesO cs m ta d.lo d.hi
structure SegOk (cs m : List Int) (ta : List Addr) (n : Nat) (dl : List Dat) : Prop where
  len : dl.length = n
  ok : ∀ d ∈ dl, DatOk cs m ta d
  chain : ∀ A d1 d2 C, dl = A ++ d1 :: d2 :: C → d1.hi = d2.lo
def mergeD (cs m : List Int) (ta : List Addr) (d1 d2 : Dat) : Dat := ⟨d1.lo, d2.hi, lonesC cs m ta d1.lo d2.hi, lonesO cs m ta d1.lo d2.hi⟩
theorem SegOk.step {cs m : List Int} {ta : List Addr} {n : Nat} {A C : List Dat} {d1 d2 : Dat} (X : SegOk cs m ta (n + 1) (A ++ d1 :: d2 :: C)) : SegOk cs m ta n (A ++ mergeD cs m ta d1 d2 :: C) := by
  have h12 := X.chain A d1 d2 C rfl
  have o1 := X.ok d1 (by simp)
  have o2 := X.ok d2 (by simp)
  refine ⟨?_, fun d hd => ?_, fun A' e1 e2 C' he => ?_⟩
  · have := X.len; simp at this ⊢; omega
  · rcases List.mem_append.mp hd with hd | hd
    · exact X.ok d (List.mem_append.mpr (.inl hd))
    rcases List.mem_cons.mp hd with rfl | hd
    · refine ⟨?_, o2.le, rfl, rfl⟩
      show d1.lo < d2.hi
      have := o1.lt; have := o2.lt; omega
    · exact X.ok d (List.mem_append.mpr (.inr (.tail _ (.tail _ hd))))
  · rcases List.append_eq_append_iff.mp he with ⟨a, h1, h2⟩ | ⟨a, h1, h2⟩
    · -- A' = A ++ a, merge :: C = a ++ e1 :: e2 :: C'
      cases a with
      | nil =>
        simp only [List.nil_append, List.cons.injEq] at h2
        obtain ⟨rfl, rfl⟩ := h2
        show d2.hi = e2.lo
        exact X.chain (A ++ [d1]) d2 e2 C' (by simp)
      | cons x a =>
        simp only [List.cons_append, List.cons.injEq] at h2
        obtain ⟨rfl, rfl⟩ := h2
        exact X.chain (A ++ d1 :: d2 :: a) e1 e2 C' (by simp)
    · -- A = A' ++ a, e1 :: e2 :: C' = a ++ merge :: C
      cases a with
      | nil =>
        simp only [List.nil_append, List.cons.injEq] at h2
        obtain ⟨rfl, rfl⟩ := h2
        show d2.hi = e2.lo
        subst h1
        exact X.chain (A' ++ [] ++ [d1]) d2 e2 C' (by simp)
      | cons x a =>
        simp only [List.cons_append, List.cons.injEq] at h2
        obtain ⟨rfl, h2⟩ := h2
        cases a with
        | nil =>
          simp only [List.nil_append, List.cons.injEq] at h2
          obtain ⟨rfl, rfl⟩ := h2
          show e1.hi = d1.lo
          exact X.chain A' e1 d1 (d2 :: C') (by rw [h1]; simp)
        | cons y a =>
          simp only [List.cons_append, List.cons.injEq] at h2
          obtain ⟨rfl, rfl⟩ := h2
          exact X.chain A' e1 e2 (a ++ d1 :: d2 :: C) (by rw [h1]; simp)
theorem iter_down {h : Heap} : IsRangeIter (h.push { cls := .type "range_iterator", data := .fields #[rawInt 6, rawInt (Builtin.Range.rangeSize 6 0 (-1)), rawInt (-1)] }) h.objs.size (6 + ((0 : Nat) : Int) * (-1)) (((6 : Nat) : Int) - ((0 : Nat) : Int)) (-1) := by
  have e1 : Builtin.Range.rangeSize 6 0 (-1) = 6 := by decide
  unfold IsRangeIter
  rw [Heap.get?_push_size _ rfl, e1]
  rfl
theorem split2 {α : Type} {l : List α} {n : Nat} (h : n + 1 < l.length) : ∃ A a b C, l = A ++ a :: b :: C ∧ A.length = n := by
  refine ⟨l.take n, l[n], l[n + 1], l.drop (n + 2), ?_, by rw [List.length_take]; omega⟩
  rw [← List.drop_eq_getElem_cons h, ← List.drop_eq_getElem_cons (show n < l.length by omega), List.take_append_drop]
theorem split3 {l : List Form} {n : Nat} (h : n + 1 < l.length) : ∃ A a b C, l = A ++ a :: b :: C ∧ A.length = n ∧ ((l.map Form.fa).map Value.ref)[n]? = some (.ref a.fa) ∧ ((l.map Form.fa).map Value.ref)[n + 1]? = some (.ref b.fa) := by
  obtain ⟨A, a, b, C, rfl, hA⟩ := split2 h
  refine ⟨A, a, b, C, rfl, hA, ?_, ?_⟩
  · simp [List.getElem?_append_right, hA]
  · simp [List.getElem?_append_right, hA]
theorem adrs_split {A C : List Form} {f1 f2 : Form} (nd : (adrs (A ++ f1 :: f2 :: C)).Nodup) :
    [f1.fa, f1.ca, f1.oa, f2.fa, f2.ca, f2.oa].Nodup ∧ (adrs (A ++ C)).Nodup ∧ ∀ a ∈ adrs (A ++ C), a ∉ [f1.fa, f1.ca, f1.oa, f2.fa, f2.ca, f2.oa] := by
  have e1 : adrs (A ++ f1 :: f2 :: C) = adrs A ++ ([f1.fa, f1.ca, f1.oa, f2.fa, f2.ca, f2.oa] ++ adrs C) := by
    rw [adrs_app]; rfl
  have e2 : adrs (A ++ C) = adrs A ++ adrs C := adrs_app A C
  rw [e1] at nd
  have pm := List.perm_append_comm_assoc (adrs A) [f1.fa, f1.ca, f1.oa, f2.fa, f2.ca, f2.oa] (adrs C)
  have nd' := pm.nodup_iff.mp nd
  rw [← e2] at nd'
  obtain ⟨n1, n2, n3⟩ := List.nodup_append.mp nd'
  exact ⟨n1, n2, fun a ha hb => n3 a hb a ha rfl⟩
theorem lones_lt {m : List Int} {lo hi p : Nat} (h : p ∈ lones m lo hi) : lo ≤ p ∧ p < hi := by
  have h1 := (List.mem_filter.mp h).1
  rw [List.mem_range'_1] at h1
  omega
theorem DatOk.mem {cs m : List Int} {ta : List Addr} {d : Dat} (o : DatOk cs m ta d) (t7 : ta.length = 7) : ∀ a ∈ d.op ++ d.cl, a ∈ ta := by
  intro a ha
  have key : ∀ p, p ∈ lones m d.lo d.hi → ta.getD p 0 ∈ ta := fun p hp => by
    have := lones_lt hp
    have := o.le
    rw [List.getD_eq_getElem?_getD, List.getElem?_eq_getElem (show p < ta.length by omega)]
    exact List.getElem_mem _
  rcases List.mem_append.mp ha with ha | ha
  · rw [o.op] at ha
    obtain ⟨p, hp, rfl⟩ := List.mem_map.mp ha
    exact key p (List.mem_filter.mp hp).1
  · rw [o.cl] at ha
    obtain ⟨p, hp, rfl⟩ := List.mem_map.mp ha
    exact key p (List.mem_filter.mp hp).1
theorem lones_len {m : List Int} {lo hi : Nat} : (lones m lo hi).length ≤ hi - lo := by
  unfold lones
  exact Nat.le_trans (List.length_filter_le _ _) (by simp)
theorem lonesC_len {cs m : List Int} {ta : List Addr} {lo hi : Nat} (h : hi ≤ 7) : (lonesC cs m ta lo hi).length ≤ 7 := by
  unfold lonesC
  rw [List.length_map]
  have h1 := List.length_filter_le (fun p => decide (cs.getD p 0 % 4 > 1)) (lones m lo hi)
  have h2 := lones_len (m := m) (lo := lo) (hi := hi)
  omega
theorem lonesO_len {cs m : List Int} {ta : List Addr} {lo hi : Nat} (h : hi ≤ 7) : (lonesO cs m ta lo hi).length ≤ 7 := by
  unfold lonesO
  rw [List.length_map]
  have h1 := List.length_filter_le (fun p => decide (cs.getD p 0 % 4 < 2)) (lones m lo hi)
  have h2 := lones_len (m := m) (lo := lo) (hi := hi)
  omega
theorem DatOk.len {cs m : List Int} {ta : List Addr} {d : Dat} (o : DatOk cs m ta d) : d.cl.length ≤ 7 ∧ d.op.length ≤ 7 := by
  rw [o.cl, o.op]; exact ⟨lonesC_len o.le, lonesO_len o.le⟩
/-- the law's frame after a caught exception below it -/
theorem LSt.slots {s₁ : Shared} {L : Nat} {loc : List (Str × Option Value)} {v : List (Option Value)} {s s' : Shared} {a b : Nat} {oO : Obj} (S : LSt s₁ L loc v s) (ha : Off L a) (hb : Off L b) (ha0 : s₁.heap.get? a = none) (hb0 : s₁.heap.get? b = none) (hO : s.heap.get? L = some oO)
    (hk : ∀ c o, c ∉ [a, b, L] → s.heap.get? c = some o → s'.heap.get? c = some o) (hs : ∃ sl, s'.heap.get? L = some { oO with slots := sl }) (g : Gp s s') : LSt s₁ L loc v s' := by
  have nt : ∀ c, c ≠ a → c ≠ b → c ≠ L → c ∉ [a, b, L] := fun c h1 h2 h3 hm => by
    simp only [List.mem_cons, List.not_mem_nil, or_false] at hm
    rcases hm with e | e | e
    · exact h1 e
    · exact h2 e
    · exact h3 e
  have hb8 : ∀ k : Nat, 1 ≤ k → k ≤ 8 → L + k ∉ [a, b, L] := fun k h1 hk8 => nt _ (fun e => ha k hk8 e.symm) (fun e => hb k hk8 e.symm) (by omega)
  refine ⟨S.gp.trans g, ?_, ⟨fun k h1 h8 => ?_⟩, S.len, ?_⟩
  · obtain ⟨oL, esL, epL, hoL, hLd, hLk, hLf⟩ := S.fr.ns
    rw [hO] at hoL
    cases hoL
    obtain ⟨sl', hs'⟩ := hs
    refine ⟨⟨_, esL, epL, hs', hLd, hLk, hLf⟩, fun c o hc => hk c o (nt c ?_ ?_ ?_) (S.fr.keep c o hc), S.fr.above⟩
    · rintro rfl; rw [ha0] at hc; cases hc
    · rintro rfl; rw [hb0] at hc; cases hc
    · rintro rfl; exact Nat.lt_irrefl _ (Nat.lt_of_lt_of_le (Heap.lt_size hc) S.fr.above)
  · obtain ⟨o, ho, hd⟩ := S.cs.at_ k h1 h8
    exact ⟨o, hk _ _ (hb8 k h1 h8) ho, hd⟩
  · obtain ⟨o, ho, hd⟩ := S.cs.at_ 8 (by decide) (by decide)
    exact Heap.lt_size (hk _ _ (hb8 8 (by decide) (by decide)) ho)
theorem six {a b c d e f : Addr} (h : [a, b, c, d, e, f].Nodup) : (a ≠ c ∧ b ≠ c ∧ d ≠ c ∧ e ≠ c ∧ f ≠ c) ∧ a ≠ e ∧ b ≠ e ∧ c ≠ e ∧ d ≠ e ∧ f ≠ e := by
  simp only [List.nodup_cons, List.mem_cons, List.not_mem_nil, or_false, not_or] at h
  obtain ⟨⟨h1, h2, h3, h4, h5⟩, ⟨h6, h7, h8, h9⟩, ⟨h10, h11, h12⟩, ⟨h13, h14⟩, h15, _⟩ := h
  exact ⟨⟨h2, h6, Ne.symm h10, Ne.symm h11, Ne.symm h12⟩, h4, h8, h11, h13, Ne.symm h15⟩
theorem Gp.tk {h h' : Heap} {g : Array GenState} {d : Drawn} {t t' : Nat} {o : OsState} {s' : Shared} (a : Gp ⟨h, g, d, t, o⟩ s') : Gp ⟨h', g, d, t', o⟩ s' := ⟨a.gens, a.bare, a.drawn, a.os⟩
theorem newT {prog : Program} {w : World} {A : Around} {E : Value → Shared → Prop} {s : Shared} {vs : List Value} {Q : Value → Shared → Prop}
    (h : ∀ D h', s.heap.get? D = none → (∀ b o, s.heap.get? b = some o → h'.get? b = some o) → IsTup h' D vs.toArray → Q (.ref D) { s with heap := h' }) (hz : vs.toArray.size ≤ sizeLine := by size_fits) : wpAny (model prog w) A (newTuple vs) Q E s := by
  refine wpAny_newTuple ?_ 
  exact h _ _ (Heap.get?_none_of_le (Nat.le_refl _)) (fun _ _ e => Heap.get?_push_of_some _ e) ⟨_, Heap.get?_push_size _ rfl, rfl, _, rfl⟩
theorem ne_tup_same {prog : Program} {w : World} {A : Around} {E : Value → Shared → Prop} {s : Shared} {l b : Addr} {x y : Value} {Q : Value → Shared → Prop} (hl : IsTup s.heap l [x, y].toArray) (hb : IsTup s.heap b [x, y].toArray) (hu : A.units < cLine) (h : Q (.bool false) s) :
    wpAny (model prog w) A (compareOp .NotEq (.ref l) (.ref b)) Q E s := by
  refine (SeqAt.RcNeAt.tuples (e := fun _ => true) hl hb hu fun j h1 h2 => ?_) prog w E Q ?_
  · exact SeqAt.EqAt.same _
  · exact h
theorem ne_nil {prog : Program} {w : World} {A : Around} {E : Value → Shared → Prop} {s : Shared} {l b : Addr} {Q : Value → Shared → Prop} (hl : s.heap.IsList l #[]) (hb : s.heap.IsList b #[]) (hu : A.units < cLine) (h : Q (.bool false) s) :
    wpAny (model prog w) A (compareOp .NotEq (.ref l) (.ref b)) Q E s := by
  refine (SeqAt.RcNeAt.lists (e := fun _ => true) hl hb rfl hu fun j h1 h2 => ?_) prog w E Q ?_
  · exact absurd h1 (Nat.not_lt_zero _)
  · exact h
/-- the comprehension that keeps its items -/
theorem paired_eq {l ys : List Value} (h : Paired (fun v y => y = v) l ys) : ys = l := by
  induction h with
  | nil => rfl
  | cons h _ ih => rw [h, ih]
theorem ints_filter_eq {vs ys : List Value} {n lo : Nat} {q : Nat → Bool} (hl : vs.length = n) (h : ∀ (j : Nat) v, vs[j]? = some v → ∃ t, v = Value.int ((lo : Int) + (j : Int) * 1) t) (hp : Paired (fun v y => y = v) (vs.filter (onInt fun p => q p.toNat)) ys) :
    IntsAre ys (((List.range' lo n).filter q).map fun (p : Nat) => (p : Int)) := by
  rw [paired_eq hp]
  have h1 := ints_filter (ints_range hl h) (fun p => q p.toNat)
  have e : ((List.range n).map fun (j : Nat) => (lo : Int) + (j : Int)) = (List.range' lo n).map fun (p : Nat) => (p : Int) := by
    rw [List.range'_eq_map_range, List.map_map]
    refine List.map_congr_left fun a _ => ?_
    simp
  rw [e, List.filter_map] at h1
  exact h1
theorem LSt.asg {s₁ : Shared} {L : Nat} {loc : List (Str × Option Value)} {v : List (Option Value)} {h h' : Heap} {g : Array GenState} {d : Drawn} {t t' : Nat} {o : OsState} {n : Str} {x : Value} (S : LSt s₁ L loc v ⟨h, g, d, t, o⟩) (hn : h'.Ns L (fun y => if y = n then some x else Mine.mk loc y))
    (hk : ∀ b o, b ≠ L → h.get? b = some o → h'.get? b = some o) : LSt s₁ L (setL loc n x) v ⟨h', g, d, t', o⟩ := by
  rw [mk_set] at hn
  refine ⟨S.gp.trans (.eqs rfl rfl rfl), ⟨hn, fun b o e => hk b o (fun z => ?_) (S.fr.keep b o e), S.fr.above⟩, S.cs.keep fun b o hb _ e => hk b o (Nat.ne_of_gt hb) e, S.len, ?_⟩
  · subst z; exact Nat.lt_irrefl _ (Nat.lt_of_lt_of_le (Heap.lt_size e) S.fr.above)
  · obtain ⟨o, ho, hd⟩ := S.cs.at_ 8 (by decide) (by decide)
    exact Heap.lt_size (hk _ _ (by omega) ho)
theorem LSt.addL {prog : Program} {w : World} {A : Around} {E : Value → Shared → Prop} {s₁ : Shared} {L : Nat} {loc : List (Str × Option Value)} {v : List (Option Value)} {h : Heap} {g : Array GenState} {d : Drawn} {t : Nat} {o : OsState} {a b : Addr} {xs ys : List Addr} {c1 c2 : Nat} {Q : Value → Shared → Prop}
    (S : LSt s₁ L loc v ⟨h, g, d, t, o⟩) (ha : h.get? a = some (listOf (refs xs) c1)) (hb : h.get? b = some (listOf (refs ys) c2)) (hz : xs.length + ys.length ≤ 1000)
    (hQ : ∀ D h', LSt s₁ L loc v ⟨h', g, d, t, o⟩ → (∀ b o, Off L b → h.get? b = some o → h'.get? b = some o) → h.get? D = none → h'.get? D = some (listOf (refs (xs ++ ys)) 0) → Q (.ref D) ⟨h', g, d, t, o⟩) :
    wpAny (model prog w) A (binaryOp .Add (.ref a) (.ref b)) Q E ⟨h, g, d, t, o⟩ := by
  refine add_lists (s := ⟨h, g, d, t, o⟩) (vs := xs.map Value.ref) (ws := ys.map Value.ref) S.fr (restL_news (.head _) : News s₁.heap L h (restL s₁.heap h [L])) ⟨_, ha, rfl, _, rfl⟩ ⟨_, hb, rfl, _, rfl⟩ (fun h' F' N' => ?_) (by rw [List.length_map, List.length_map, sizeLine_eq]; omega)
  have kb := restL_back S.fr.keep F'.keep (news_tail N')
  have k1 : ∀ b o, b ≠ L → h.get? b = some o → h'.get? b = some o := fun b o hb e => kb b o (fun hm => hb (List.mem_singleton.mp hm)) e
  have z := (N' _ (.head _)).1
  have e : (xs.map Value.ref ++ ys.map Value.ref).toArray = refs (xs ++ ys) := by simp [refs]
  rw [e] at z
  exact hQ _ h' (S.back (s' := ⟨h', g, d, t, o⟩) F' rfl S.offS (fun b o hb e => k1 b o (fun z => hb (z ▸ .head _)) e) (.eqs rfl rfl rfl)) (fun b o hb e => k1 b o (hb 0 (by decide)) e) (Heap.get?_none_of_le (Nat.le_refl _)) z
theorem pick_to (items : Array Value) (b : Nat) (hb : b ≤ items.size) : slicePick items none (some b) none = (items.toList.take b).toArray := by
  have h := slicePick_run items 0 b hb (Nat.zero_le _)
  rw [List.drop_zero, Nat.sub_zero] at h
  rw [← h]
  unfold slicePick
  congr 2
  try simp [sliceBounds]
theorem pick_from (items : Array Value) (a : Nat) (ha : a ≤ items.size) : slicePick items (some a) none none = (items.toList.drop a).toArray := by
  have h := slicePick_run items a items.size (Nat.le_refl _) ha
  rw [List.take_of_length_le (by simp)] at h
  rw [← h]
  unfold slicePick
  congr 2
  simp only [sliceBounds, Option.getD_none]
  have e : max (0 : Int) (min (if (items.size : Int) < 0 then (items.size : Int) + items.size else items.size) items.size) = items.size := by split <;> omega
  simp [e]
theorem pick_rev (xs : List Addr) : slicePick (refs xs) none none (some (-1)) = refs xs.reverse := by
  rw [krv_pick]; simp [refs]
theorem refs_to (xs : List Addr) (b : Nat) (hb : b ≤ xs.length) : slicePick (refs xs) none (some b) none = refs (xs.take b) := by
  rw [pick_to _ _ (by rw [refs_size]; exact hb)]; simp [refs]
theorem refs_from (xs : List Addr) (a : Nat) (ha : a ≤ xs.length) : slicePick (refs xs) (some a) none none = refs (xs.drop a) := by
  rw [pick_from _ _ (by rw [refs_size]; exact ha)]; simp [refs]
/-- the comprehension of things by places -/
theorem paired_things {ta : List Addr} : ∀ {vs ys : List Value} {ps : List Nat}, IntsAre vs (ps.map fun (p : Nat) => (p : Int)) → ∀ (q : Nat → Bool), Paired (fun v y => ∃ (p : Nat) (t : Tok), v = Value.int p t ∧ y = .ref (ta.getD p 0)) (vs.filter (onInt fun p => q p.toNat)) ys →
    ys = ((ps.filter q).map fun p => ta.getD p 0).map Value.ref := by
  intro vs ys ps hi q hp
  have h1 := ints_filter hi (fun p => q p.toNat)
  rw [List.filter_map] at h1
  have e : ((fun (p : Int) => q p.toNat) ∘ fun (p : Nat) => (p : Int)) = q := by funext p; simp
  rw [e] at h1
  revert h1 hp
  generalize vs.filter _ = us
  generalize ps.filter q = qs
  intro hp h1
  induction qs generalizing us ys with
  | nil => cases h1; cases hp; rfl
  | cons p qs ih =>
    cases h1 with
    | cons n t h1 =>
    cases hp with
    | cons h hp =>
    obtain ⟨p', t', e1, rfl⟩ := h
    have e2 : (p : Int) = (p' : Int) := by injection e1
    have e3 : p = p' := by omega
    subst e3
    rw [ih _ hp h1]; rfl
theorem slice_h {prog : Program} {w : World} {A : Around} {E : Value → Shared → Prop} {hp : Heap} {g : Array GenState} {d : Drawn} {t : Nat} {os : OsState} {value slice : PySem.Expr} {l : Addr} {items : Array Value} {vl vu vk : Value} {lo hi st : Option Int} {ops : List Value} {Q : Value → Shared → Prop}
    (hl : hp.IsList l items) (pl : IsPart vl lo) (pu : IsPart vu hi) (pk : IsPart vk st) (h0 : st ≠ some 0)
    (h : ∀ D h', hp.get? D = none → (∀ b o, hp.get? b = some o → h'.get? b = some o) → h'.get? D = some (listOf (slicePick items lo hi st) 0) → Q (.ref D) ⟨h', g, d, t, os⟩)
    (hsz : items.size ≤ sizeLine)
    (hs : subscripted slice false (.ref l) (.ref hp.objs.size) = operate ops (getItem (.ref l) (.ref hp.objs.size)) := by with_unfolding_all rfl) :
    wpAny (model prog w) A (subscriptTail value slice (.ref l) (.ref hp.objs.size)) Q E ⟨hp.push { cls := .type "slice", data := .fields #[vl, vu, vk] }, g, d, t, os⟩ :=
  slice_any' (s := ⟨hp, g, d, t, os⟩) hl pl pu pk h0 (fun h' k _ gg => h _ h' (Heap.get?_none_of_le (Nat.le_succ _)) k gg) hsz hs
theorem adrs_sub {A C : List Form} {f1 f2 : Form} : ∀ a ∈ adrs (A ++ C), a ∈ adrs (A ++ f1 :: f2 :: C) := by
  intro a ha
  rw [adrs_app] at ha ⊢
  rcases List.mem_append.mp ha with h | h
  · exact List.mem_append.mpr (.inl h)
  · refine List.mem_append.mpr (.inr ?_)
    show a ∈ [f1.fa, f1.ca, f1.oa] ++ ([f2.fa, f2.ca, f2.oa] ++ adrs C)
    exact List.mem_append.mpr (.inr (List.mem_append.mpr (.inr h)))
theorem Fs.rest {h8 h : Heap} {A C : List Form} {f1 f2 : Form} (X : Fs h8 h (A ++ f1 :: f2 :: C)) : Fs h8 h (A ++ C) :=
  ⟨fun f hf => X.at_ f (by
    rcases List.mem_append.mp hf with h | h
    · exact List.mem_append.mpr (.inl h)
    · exact List.mem_append.mpr (.inr (.tail _ (.tail _ h)))), (adrs_split X.nd).2.1, fun a ha => X.new a (adrs_sub a ha)⟩
theorem Fs.ins {h8 h : Heap} {A C : List Form} {f : Form} (X : Fs h8 h (A ++ C)) (hf : FormAt h f) (h1 : f.fa ∉ adrs (A ++ C)) (h2 : f.ca ∉ adrs (A ++ C)) (h3 : f.oa ∉ adrs (A ++ C)) (n1 : f.fa ≠ f.ca) (n2 : f.fa ≠ f.oa) (n3 : f.ca ≠ f.oa)
    (m1 : h8.get? f.fa = none) (m2 : h8.get? f.ca = none) (m3 : h8.get? f.oa = none) : Fs h8 h (A ++ f :: C) := by
  have e1 : adrs (A ++ f :: C) = adrs A ++ ([f.fa, f.ca, f.oa] ++ adrs C) := by rw [adrs_app]; rfl
  have e2 : adrs (A ++ C) = adrs A ++ adrs C := adrs_app A C
  have pm := List.perm_append_comm_assoc (adrs A) [f.fa, f.ca, f.oa] (adrs C)
  rw [← e1, ← e2] at pm
  have hmem : ∀ a, a ∈ [f.fa, f.ca, f.oa] → a = f.fa ∨ a = f.ca ∨ a = f.oa := fun a ha => by
    simpa using ha
  refine ⟨fun g hg => ?_, pm.nodup_iff.mpr (List.nodup_append.mpr ⟨by simp [n1, n2, n3], X.nd, fun a ha b hb e => ?_⟩), fun a ha => ?_⟩
  · rcases List.mem_append.mp hg with h | h
    · exact X.at_ g (List.mem_append.mpr (.inl h))
    rcases List.mem_cons.mp h with rfl | h
    · exact hf
    · exact X.at_ g (List.mem_append.mpr (.inr h))
  · subst e
    rcases hmem a ha with rfl | rfl | rfl
    · exact h1 hb
    · exact h2 hb
    · exact h3 hb
  · rcases List.mem_append.mp (pm.mem_iff.mp ha) with h | h
    · rcases hmem a h with rfl | rfl | rfl
      · exact m1
      · exact m2
      · exact m3
    · exact X.new a h
theorem fas_take {A C : List Form} {f1 f2 : Form} {n : Nat} (h : A.length = n) : ((A ++ f1 :: f2 :: C).map Form.fa).take n = A.map Form.fa := by
  rw [List.map_append, List.take_left' (by simp [h])]
theorem fas_drop {A C : List Form} {f1 f2 : Form} {n : Nat} (h : A.length = n) : ((A ++ f1 :: f2 :: C).map Form.fa).drop (n + 2) = C.map Form.fa := by
  subst h
  rw [List.map_append, List.drop_append]
  simp
theorem adrs_ins {A C : List Form} {f : Form} {a : Addr} (h : a ∈ adrs (A ++ f :: C)) : a ∈ adrs (A ++ C) ∨ a = f.fa ∨ a = f.ca ∨ a = f.oa := by
  rw [adrs_app] at h ⊢
  rcases List.mem_append.mp h with h | h
  · exact .inl (List.mem_append.mpr (.inl h))
  · have h' : a ∈ [f.fa, f.ca, f.oa] ++ adrs C := h
    rcases List.mem_append.mp h' with h | h
    · right; simpa using h
    · exact .inl (List.mem_append.mpr (.inr h))
end Mine
end
section
theorem Mine.walk_reset_Q1 : True := by
  w_top off
  trivial
open PySem PySem.W PyProof.Rows
set_option maxRecDepth 100000
set_option maxHeartbeats 2000000
namespace Mine
theorem join_cps (l : List Str) : (Txt.join (Str.ofString "") l).cps.toList = l.flatMap fun y => y.cps.toList := by
  have key : ∀ (l : List Str) (a : Array Nat), (l.foldl (fun acc p => acc ++ (Str.ofString "").cps ++ p.cps) a).toList = a.toList ++ l.flatMap fun y => y.cps.toList := by
    intro l
    induction l with
    | nil => intro a; simp
    | cons y r ih =>
      intro a
      rw [List.foldl_cons, ih]
      have e : (Str.ofString "").cps = #[] := by decide
      rw [e]
      simp
  show (Builtin.Str.glued (Str.ofString "") l).cps.toList = _
  unfold Builtin.Str.glued
  cases l with
  | nil => rfl
  | cons y r =>
    show (((y :: r).drop 1).foldl (fun acc p => acc ++ (Str.ofString "").cps ++ p.cps) y.cps).toList = _
    rw [key]
    simp
/-- a run of a text's signs -/
def seg (X : List Nat) (a b : Nat) : List Nat := (X.drop a).take (b - a)
theorem slc_list {x : Str} {a b : Nat} (hab : a ≤ b) (hb : b ≤ x.cps.toList.length) : (slc x a b).cps.toList = seg x.cps.toList a b := by
  have hb' : b ≤ x.length := by simpa [Str.length] using hb
  have h := StrLaws.sliced_plain x hab hb'
  unfold slc Txt.slice
  split
  · rename_i hc
    simp only [beq_self_eq_true, Bool.true_and] at hc
    have hc' := eq_of_beq hc
    rw [StrLaws.strSliceIndices_plain hab hb', List.length_map, List.length_range] at hc'
    have e1 : a = 0 := by omega
    have e2 : b = x.cps.toList.length := by have e : x.length = x.cps.toList.length := by simp [Str.length]
                                            omega
    subst e1
    unfold seg
    rw [List.drop_zero, Nat.sub_zero, e2, List.take_length]
  · exact h
theorem slf_list {x : Str} {a : Nat} (ha : a ≤ x.cps.toList.length) : (Txt.slice x (some (a : Int)) none).cps.toList = x.cps.toList.drop a := by
  have e : x.length = x.cps.toList.length := by simp [Str.length]
  have h1 : Txt.slice x (some (a : Int)) none = slc x a x.length := by
    unfold slc Txt.slice
    rw [StrLaws.sliceIdx_none_hi]
  rw [h1, e, slc_list ha (Nat.le_refl _)]
  unfold seg
  rw [List.take_of_length_le (by simp)]
/-- what is left of a text when its quoted names go -/
def stp : Option (List Nat) → Bool → List Nat → List Nat
  | none, _, [] => []
  | some b, _, [] => b
  | none, true, c :: r => c :: stp none false r
  | none, false, c :: r => if c = 92 then 92 :: stp none true r else if c = 34 then stp (some [34]) false r else c :: stp none false r
  | some b, true, c :: r => stp (some (b ++ [c])) false r
  | some b, false, c :: r => if c = 92 then stp (some (b ++ [92])) true r else if c = 34 then stp none false r else stp (some (b ++ [c])) false r
theorem stp_plain : ∀ (r : List Nat) (e : Bool), 34 ∉ r → stp none e r = r
  | [], e, _ => by cases e <;> rfl
  | c :: r, true, h => by
    show c :: stp none false r = _
    rw [stp_plain r false fun z => h (.tail _ z)]
  | c :: r, false, h => by
    show (if c = 92 then 92 :: stp none true r else if c = 34 then stp (some [34]) false r else c :: stp none false r) = _
    have h34 : c ≠ 34 := fun e => h (e ▸ .head _)
    by_cases h92 : c = 92
    · rw [if_pos h92, stp_plain r true fun z => h (.tail _ z), h92]
    · rw [if_neg h92, if_neg h34, stp_plain r false fun z => h (.tail _ z)]
def catL (l : List Str) : List Nat := l.flatMap fun y => y.cps.toList
def finS (x : Str) (q : Nat × Option Nat × List Str) : List Nat := (Txt.join (Str.ofString "") (if q.1 < x.cps.size then q.2.2 ++ [Txt.slice x (some (q.1 : Int)) none] else q.2.2)).cps.toList
theorem finS_eq (x : Str) (q : Nat × Option Nat × List Str) : finS x q = catL q.2.2 ++ x.cps.toList.drop q.1 := by
  unfold finS
  rw [join_cps]
  split
  · rename_i h
    rw [List.flatMap_append]
    show catL q.2.2 ++ [Txt.slice x (some (q.1 : Int)) none].flatMap (fun y => y.cps.toList) = _
    rw [List.flatMap_cons, List.flatMap_nil, List.append_nil, slf_list (by simp; omega)]
  · rename_i h
    rw [List.drop_eq_nil_of_le (by simp; omega), List.append_nil]; rfl
theorem seg_snoc {X : List Nat} {a i c : Nat} {r : List Nat} (h : X.drop i = c :: r) (ha : a ≤ i) : seg X a (i + 1) = seg X a i ++ [c] := by
  have hx : X[i]? = some c := by rw [← List.head?_drop, h]; rfl
  unfold seg
  rw [show i + 1 - a = (i - a) + 1 by omega, List.take_add_one, List.getElem?_drop, show a + (i - a) = i by omega, hx]
  rfl
theorem seg_self (X : List Nat) (a : Nat) : seg X a a = [] := by unfold seg; rw [Nat.sub_self, List.take_zero]
theorem seg_end {X : List Nat} {a i : Nat} (h : X.drop i = []) : seg X a i = X.drop a := by
  unfold seg
  have : X.length ≤ i := by simpa using h
  rw [List.take_of_length_le (by simp; omega)]
theorem seg_join {X : List Nat} {a b c : Nat} (h1 : a ≤ b) (h2 : b ≤ c) : seg X a b ++ seg X b c = seg X a c := by
  unfold seg
  rw [show c - a = (b - a) + (c - b) by omega, List.take_add, List.drop_drop, show a + (b - a) = b by omega]
theorem cat_snoc (l : List Str) (y : Str) : catL (l ++ [y]) = catL l ++ y.cps.toList := by
  unfold catL; rw [List.flatMap_append]; simp
theorem strip_inv (x : Str) : ∀ (r : List Nat) (i : Nat) (e : Bool), x.cps.toList.drop i = r → i ≤ x.cps.toList.length →
    (∀ start res, start ≤ i → finS x ((escF i e r).foldl (sStep x) (start, none, res)) = catL res ++ seg x.cps.toList start i ++ stp none e r) ∧
    (∀ start o res, start ≤ o → o < i → finS x ((escF i e r).foldl (sStep x) (start, some o, res)) = catL res ++ seg x.cps.toList start o ++ stp (some (seg x.cps.toList o i)) e r)
  | [], i, e, hr, hi => by
    have hit : ∀ q, (escF i e []).foldl (sStep x) q = q := by
      intro q
      cases e
      · rfl
      · show sStep x q (i - 1, ⟨#[92]⟩) = q
        unfold sStep
        rw [if_neg (show ¬ (⟨#[92]⟩ : Str) = ⟨#[34]⟩ by decide)]
    refine ⟨fun start res hs => ?_, fun start o res hs ho => ?_⟩
    · rw [hit, finS_eq]
      have e1 : stp none e [] = [] := by cases e <;> rfl
      rw [e1, List.append_nil, seg_end hr]
    · rw [hit, finS_eq]
      have e1 : stp (some (seg x.cps.toList o i)) e [] = seg x.cps.toList o i := by cases e <;> rfl
      rw [e1, List.append_assoc, seg_join hs (Nat.le_of_lt ho), seg_end hr]
  | c :: r, i, true, hr, hi => by
    have hi' : i < x.cps.toList.length := by
      have := congrArg List.length hr
      rw [List.length_drop, List.length_cons] at this
      omega
    have hr' : x.cps.toList.drop (i + 1) = r := by rw [← List.drop_drop, hr]; rfl
    obtain ⟨ih1, ih2⟩ := strip_inv x r (i + 1) false hr' hi'
    have hst : ∀ q, sStep x q (i, ⟨#[92, c]⟩) = q := fun q => by
      unfold sStep
      rw [if_neg (fun h => by injection h with h; injection h with h; cases h)]
    refine ⟨fun start res hs => ?_, fun start o res hs ho => ?_⟩
    · show finS x ((escF (i + 1) false r).foldl (sStep x) (sStep x (start, none, res) (i, ⟨#[92, c]⟩))) = _
      rw [hst, ih1 start res (by omega), seg_snoc hr hs]
      show _ = catL res ++ seg x.cps.toList start i ++ (c :: stp none false r)
      simp
    · show finS x ((escF (i + 1) false r).foldl (sStep x) (sStep x (start, some o, res) (i, ⟨#[92, c]⟩))) = _
      rw [hst, ih2 start o res hs (by omega), seg_snoc hr (Nat.le_of_lt ho)]
      rfl
  | c :: r, i, false, hr, hi => by
    have hi' : i < x.cps.toList.length := by
      have := congrArg List.length hr
      rw [List.length_drop, List.length_cons] at this
      omega
    have hr' : x.cps.toList.drop (i + 1) = r := by rw [← List.drop_drop, hr]; rfl
    by_cases h92 : c = 92
    · subst h92
      obtain ⟨ih1, ih2⟩ := strip_inv x r (i + 1) true hr' hi'
      have he : escF i false (92 :: r) = escF (i + 1) true r := by
        show (if (92 : Nat) = 92 then _ else _) = _
        rw [if_pos rfl]
      rw [he]
      refine ⟨fun start res hs => ?_, fun start o res hs ho => ?_⟩
      · rw [ih1 start res (by omega), seg_snoc hr hs]
        show _ = catL res ++ seg x.cps.toList start i ++ (if (92 : Nat) = 92 then 92 :: stp none true r else _)
        rw [if_pos rfl]
        simp
      · rw [ih2 start o res hs (by omega), seg_snoc hr (Nat.le_of_lt ho)]
        show _ = catL res ++ seg x.cps.toList start o ++ (if (92 : Nat) = 92 then stp (some (seg x.cps.toList o i ++ [92])) true r else _)
        rw [if_pos rfl]
    · obtain ⟨ih1, ih2⟩ := strip_inv x r (i + 1) false hr' hi'
      have he : escF i false (c :: r) = (i, ⟨#[c]⟩) :: escF (i + 1) false r := by
        show (if c = 92 then _ else _) = _
        rw [if_neg h92]
      have hn : ∀ q, stp none false (c :: r) = (if c = 34 then stp (some [34]) false r else c :: stp none false r) ∧ stp (some q) false (c :: r) = (if c = 34 then stp none false r else stp (some (q ++ [c])) false r) := fun q => by
        constructor
        · show (if c = 92 then _ else _) = _
          rw [if_neg h92]
        · show (if c = 92 then _ else _) = _
          rw [if_neg h92]
      rw [he]
      by_cases h34 : c = 34
      · subst h34
        refine ⟨fun start res hs => ?_, fun start o res hs ho => ?_⟩
        · show finS x ((escF (i + 1) false r).foldl (sStep x) (sStep x (start, none, res) (i, ⟨#[34]⟩))) = _
          have e1 : sStep x (start, none, res) (i, ⟨#[34]⟩) = (start, some i, res) := by unfold sStep; rw [if_pos rfl]
          rw [e1, ih2 start i res hs (by omega), seg_snoc hr (Nat.le_refl _), seg_self, (hn []).1, if_pos rfl]
          rfl
        · show finS x ((escF (i + 1) false r).foldl (sStep x) (sStep x (start, some o, res) (i, ⟨#[34]⟩))) = _
          have e1 : sStep x (start, some o, res) (i, ⟨#[34]⟩) = (i + 1, none, if start = o then res else res ++ [slc x start o]) := by unfold sStep; rw [if_pos rfl]
          rw [e1, ih1 (i + 1) _ (Nat.le_refl _), seg_self, (hn _).2, if_pos rfl, List.append_nil]
          congr 1
          by_cases hso : start = o
          · rw [if_pos hso, hso, seg_self, List.append_nil]
          · rw [if_neg hso, cat_snoc, slc_list hs (by omega)]
      · have hst : ∀ q, sStep x q (i, ⟨#[c]⟩) = q := fun q => by
          unfold sStep
          rw [if_neg (fun h => h34 (by injection h with h; injection h with h; injection h))]
        refine ⟨fun start res hs => ?_, fun start o res hs ho => ?_⟩
        · show finS x ((escF (i + 1) false r).foldl (sStep x) (sStep x (start, none, res) (i, ⟨#[c]⟩))) = _
          rw [hst, ih1 start res (by omega), seg_snoc hr hs, (hn []).1, if_neg h34]
          simp
        · show finS x ((escF (i + 1) false r).foldl (sStep x) (sStep x (start, some o, res) (i, ⟨#[c]⟩))) = _
          rw [hst, ih2 start o res hs (by omega), seg_snoc hr (Nat.le_of_lt ho), (hn _).2, if_neg h34]
theorem strip_list (x : Str) : (strip x).cps.toList = stp none false x.cps.toList := by
  unfold strip
  split
  · have h := (strip_inv x x.cps.toList 0 false (List.drop_zero) (Nat.zero_le _)).1 0 [] (Nat.le_refl _)
    rw [seg_self] at h
    exact h
  · rename_i h
    exact (stp_plain _ _ h).symm
end Mine
end
section
theorem Mine.walk_reset_Q2 : True := by
  w_top off
  trivial
open PySem PySem.W PyProof.Rows
set_option maxRecDepth 100000
set_option maxHeartbeats 2000000
namespace Mine
/-- the count of the brackets over code points -/
def chkL : Bool → List Nat → Int → Bool
  | _, [], n => n == 0
  | true, _ :: r, n => chkL false r n
  | false, c :: r, n => if c = 92 then chkL true r n else if c = 40 then chkL false r (n + 1) else if c = 41 then (if n - 1 < 0 then false else chkL false r (n - 1)) else chkL false r n
theorem chk_esc : ∀ (r : List Nat) (i : Nat) (e : Bool) (n : Int), chkF (escF i e r) n = chkL e r n
  | [], i, true, n => by
    show (if (⟨#[92]⟩ : Str) = ⟨#[40]⟩ then _ else if (⟨#[92]⟩ : Str) = ⟨#[41]⟩ then _ else chkF [] n) = _
    rw [if_neg (by decide), if_neg (by decide)]; rfl
  | [], i, false, n => rfl
  | c :: r, i, true, n => by
    show (if (⟨#[92, c]⟩ : Str) = ⟨#[40]⟩ then _ else if (⟨#[92, c]⟩ : Str) = ⟨#[41]⟩ then _ else chkF (escF (i + 1) false r) n) = _
    rw [if_neg (fun h => by injection h with h; injection h with h; cases h), if_neg (fun h => by injection h with h; injection h with h; cases h), chk_esc r]
    rfl
  | c :: r, i, false, n => by
    have hc : ∀ d : Nat, ((⟨#[c]⟩ : Str) = ⟨#[d]⟩) ↔ c = d := fun d => ⟨fun h => by injection h with h; injection h with h; injection h, fun h => by rw [h]⟩
    show chkF (if c = 92 then escF (i + 1) true r else (i, ⟨#[c]⟩) :: escF (i + 1) false r) n = (if c = 92 then chkL true r n else if c = 40 then chkL false r (n + 1) else if c = 41 then (if n - 1 < 0 then false else chkL false r (n - 1)) else chkL false r n)
    by_cases h92 : c = 92
    · rw [if_pos h92, if_pos h92, chk_esc r]
    · rw [if_neg h92, if_neg h92]
      show (if (⟨#[c]⟩ : Str) = ⟨#[40]⟩ then chkF (escF (i + 1) false r) (n + 1) else if (⟨#[c]⟩ : Str) = ⟨#[41]⟩ then (if n - 1 < 0 then false else chkF (escF (i + 1) false r) (n - 1)) else chkF (escF (i + 1) false r) n) = _
      rw [chk_esc r, chk_esc r, chk_esc r]
      simp only [hc]
def run (r : List Nat) (n : Int) : Bool := chkL false (stp none false r) n
theorem check_run (x : Str) : check x = run x.cps.toList 0 := by
  unfold check run
  rw [chk_esc, strip_list]
theorem stp_mem : ∀ (r : List Nat) (m : Option (List Nat)) (e : Bool) (y : Nat), y ∈ stp m e r → y ∈ r ∨ y ∈ m.getD [] := by
  intro r
  induction r with
  | nil =>
    intro m e y h
    cases m with
    | none => cases e <;> exact absurd h List.not_mem_nil
    | some b => cases e <;> exact .inr h
  | cons c r ih =>
    intro m e y h
    cases m with
    | none =>
      cases e with
      | true =>
        have h' : y ∈ c :: stp none false r := h
        rcases List.mem_cons.mp h' with rfl | h
        · exact .inl (.head _)
        · rcases ih _ _ _ h with h | h
          · exact .inl (.tail _ h)
          · exact absurd h List.not_mem_nil
      | false =>
        have h' : y ∈ (if c = 92 then 92 :: stp none true r else if c = 34 then stp (some [34]) false r else c :: stp none false r) := h
        split at h'
        · rename_i hc
          rcases List.mem_cons.mp h' with rfl | h
          · exact .inl (hc ▸ .head _)
          · rcases ih _ _ _ h with h | h
            · exact .inl (.tail _ h)
            · exact absurd h List.not_mem_nil
        · split at h'
          · rename_i hc
            rcases ih _ _ _ h' with h | h
            · exact .inl (.tail _ h)
            · have : y = 34 := by simpa using h
              exact .inl (by rw [this, hc]; exact .head _)
          · rcases List.mem_cons.mp h' with rfl | h
            · exact .inl (.head _)
            · rcases ih _ _ _ h with h | h
              · exact .inl (.tail _ h)
              · exact absurd h List.not_mem_nil
    | some b =>
      have snoc : ∀ d, y ∈ r ∨ y ∈ (some (b ++ [d])).getD [] → d = c → y ∈ c :: r ∨ y ∈ (some b).getD [] := fun d hd e => by
        rcases hd with h | h
        · exact .inl (.tail _ h)
        · have h' : y ∈ b ++ [d] := h
          rcases List.mem_append.mp h' with h | h
          · exact .inr h
          · rw [List.mem_singleton.mp h, e]; exact .inl (.head _)
      cases e with
      | true => exact snoc c (ih _ _ _ h) rfl
      | false =>
        have h' : y ∈ (if c = 92 then stp (some (b ++ [92])) true r else if c = 34 then stp none false r else stp (some (b ++ [c])) false r) := h
        split at h'
        · rename_i hc; exact snoc 92 (ih _ _ _ h') hc.symm
        · split at h'
          · rcases ih _ _ _ h' with h | h
            · exact .inl (.tail _ h)
            · exact absurd h List.not_mem_nil
          · exact snoc c (ih _ _ _ h') rfl
theorem ascii_of {x : Str} (h : ∀ y ∈ x.cps.toList, y < 128) : x.cps.all (· < 128) = true := by
  rw [Array.all_eq_true']
  intro y hy
  exact decide_eq_true (h y (by simpa using hy))
theorem okT_of {x : Str} (h : ∀ y ∈ x.cps.toList, y < 128) (hs : x.cps.toList.length ≤ 1000) : OkT x := by
  refine ⟨ascii_of h, by simpa using hs, ascii_of fun y hy => ?_⟩
  rw [strip_list] at hy
  rcases stp_mem _ _ _ _ hy with h' | h'
  · exact h y h'
  · exact absurd h' List.not_mem_nil
/-- a piece's code points -/
def pl (vis : Bool) (n : Nat) : List Nat :=
  let s := if n / 2 % 2 = 0 then 40 else 41
  match vis, n / 4 with
  | true, 0 => [s] | true, 1 => [92, 92, s] | true, 2 => [92, 34, s] | true, _ => [34, 34, s]
  | false, 0 => [92, s] | false, 1 => [34, s, 34] | false, 2 => [34, 92, 34, s, 34] | false, _ => [92, 92, 34, s, 34]
theorem part_pl : ∀ n < 16, ∀ k < 2, (part (Int.ofNat k) (Int.ofNat n)).cps.toList = pl (n % 2 == k) n := by decide +kernel
theorem pl_small : ∀ n < 16, ∀ v : Bool, (∀ y ∈ pl v n, y < 128) ∧ (pl v n).length ≤ 5 := by decide +kernel
theorem run_pl (n : Nat) (hn : n < 16) (v : Bool) (R : List Nat) (m : Int) : run (pl v n ++ R) m = if v = true then (if n % 4 < 2 then run R (m + 1) else if m - 1 < 0 then false else run R (m - 1)) else run R m := by
  match n, hn, v with
  | 0, _, true => rfl
  | 1, _, true => rfl
  | 2, _, true => rfl
  | 3, _, true => rfl
  | 4, _, true => rfl
  | 5, _, true => rfl
  | 6, _, true => rfl
  | 7, _, true => rfl
  | 8, _, true => rfl
  | 9, _, true => rfl
  | 10, _, true => rfl
  | 11, _, true => rfl
  | 12, _, true => rfl
  | 13, _, true => rfl
  | 14, _, true => rfl
  | 15, _, true => rfl
  | 0, _, false => rfl
  | 1, _, false => rfl
  | 2, _, false => rfl
  | 3, _, false => rfl
  | 4, _, false => rfl
  | 5, _, false => rfl
  | 6, _, false => rfl
  | 7, _, false => rfl
  | 8, _, false => rfl
  | 9, _, false => rfl
  | 10, _, false => rfl
  | 11, _, false => rfl
  | 12, _, false => rfl
  | 13, _, false => rfl
  | 14, _, false => rfl
  | 15, _, false => rfl
  | n + 16, h, _ => exact absurd h (by omega)
end Mine
end
section
theorem Mine.walk_reset_Q3 : True := by
  w_top off
  trivial
open PySem PySem.W PyProof.Rows
set_option maxRecDepth 100000
set_option maxHeartbeats 2000000
namespace Mine
def bstep (k m n : Int) : Option Int := if n % 2 = k then (if n % 4 < 2 then some (m + 1) else if m - 1 < 0 then none else some (m - 1)) else some m
/-- the balance of a kind's brackets -/
def bal (k : Int) : List Int → Int → Option Int
  | [], m => some m
  | n :: r, m => match bstep k m n with
    | none => none
    | some m' => bal k r m'
def cpsL (k : Int) (w : List Int) : List Nat := w.flatMap fun n => (part k n).cps.toList
theorem piece {n : Int} (hr : 0 ≤ n ∧ n < 16) {k : Nat} (hk : k < 2) : ∃ a : Nat, a < 16 ∧ n = (a : Int) ∧ (part (k : Int) n).cps.toList = pl (a % 2 == k) a := by
  obtain ⟨a, rfl⟩ := Int.eq_ofNat_of_zero_le hr.1
  exact ⟨a, by omega, rfl, part_pl a (by omega) k hk⟩
theorem run_cells {k : Nat} (hk : k < 2) : ∀ (w : List Int) (R : List Nat) (m : Int), (∀ n ∈ w, 0 ≤ n ∧ n < 16) → run (cpsL k w ++ R) m = match bal k w m with
    | none => false
    | some m' => run R m'
  | [], R, m, _ => rfl
  | n :: w, R, m, h => by
    obtain ⟨a, ha, rfl, hp⟩ := piece (h n (.head _)) hk
    have e : cpsL k ((a : Int) :: w) ++ R = pl (a % 2 == k) a ++ (cpsL k w ++ R) := by
      show ((part (k : Int) (a : Int)).cps.toList ++ cpsL k w) ++ R = _
      rw [hp, List.append_assoc]
    rw [e, run_pl a ha, run_cells hk w R _ fun n hn => h n (.tail _ hn), run_cells hk w R _ fun n hn => h n (.tail _ hn), run_cells hk w R _ fun n hn => h n (.tail _ hn)]
    show _ = match (match bstep k m (a : Int) with
      | none => none
      | some m' => bal k w m') with
      | none => false
      | some m' => run R m'
    unfold bstep
    have h2 : ((a : Int) % 2 = (k : Int)) ↔ (a % 2 == k) = true := by rw [beq_iff_eq]; omega
    have h4 : ((a : Int) % 4 < 2) ↔ a % 4 < 2 := by omega
    by_cases c2 : (a % 2 == k) = true
    · rw [if_pos c2, if_pos (h2.mpr c2)]
      by_cases c4 : a % 4 < 2
      · rw [if_pos c4, if_pos (h4.mpr c4)]
      · rw [if_neg c4, if_neg (fun z => c4 (h4.mp z))]
        by_cases c0 : m - 1 < 0
        · rw [if_pos c0, if_pos c0]
        · rw [if_neg c0, if_neg c0]
    · rw [if_neg c2, if_neg (fun z => c2 (h2.mp z))]
theorem cps_small {k : Nat} (hk : k < 2) : ∀ (w : List Int), (∀ n ∈ w, 0 ≤ n ∧ n < 16) → (∀ y ∈ cpsL k w, y < 128) ∧ (cpsL k w).length ≤ 5 * w.length
  | [], _ => ⟨fun y hy => absurd hy List.not_mem_nil, Nat.le_refl _⟩
  | n :: w, h => by
    obtain ⟨a, ha, rfl, hp⟩ := piece (h n (.head _)) hk
    obtain ⟨i1, i2⟩ := cps_small hk w fun n hn => h n (.tail _ hn)
    obtain ⟨p1, p2⟩ := pl_small a ha (a % 2 == k)
    have e : cpsL k ((a : Int) :: w) = pl (a % 2 == k) a ++ cpsL k w := by
      show (part (k : Int) (a : Int)).cps.toList ++ cpsL k w = _
      rw [hp]
    rw [e]
    refine ⟨fun y hy => ?_, ?_⟩
    · rcases List.mem_append.mp hy with hy | hy
      · exact p1 y hy
      · exact i1 y hy
    · rw [List.length_append, List.length_cons]; omega
def win (cs : List Int) (a b : Nat) : List Int := (cs.drop a).take (b - a)
theorem rows_at {cs : List Int} {k : Nat} (hk : k < 2) : (rowsOf cs).getD k [] = cs.map (part k) := by
  match k, hk with
  | 0, _ => rfl
  | 1, _ => rfl
theorem seg_cps {cs : List Int} {k : Nat} (hk : k < 2) (f l : Nat) : (segT (rowsOf cs) k f l).cps.toList = cpsL k (win cs f (l + 1)) := by
  unfold segT
  rw [join_cps, rows_at hk, ← List.map_drop, ← List.map_take, List.flatMap_map]
  rfl
theorem win_mem {cs : List Int} {a b : Nat} (h : ∀ n ∈ cs, 0 ≤ n ∧ n < 16) : ∀ n ∈ win cs a b, 0 ≤ n ∧ n < 16 := fun n hn => h n (List.mem_of_mem_drop (List.mem_of_mem_take hn))
theorem check_seg {cs : List Int} (hr : ∀ n ∈ cs, 0 ≤ n ∧ n < 16) {k : Nat} (hk : k < 2) (f l : Nat) : (check (segT (rowsOf cs) k f l) = true) ↔ bal k (win cs f (l + 1)) 0 = some 0 := by
  have h := run_cells hk (win cs f (l + 1)) [] 0 (win_mem hr)
  rw [List.append_nil] at h
  rw [check_run, seg_cps hk, h]
  cases bal k (win cs f (l + 1)) 0 with
  | none => simp
  | some m =>
    show (m == 0) = true ↔ some m = some 0
    rw [beq_iff_eq, Option.some.injEq]
theorem seg_ok {cs : List Int} (h7 : cs.length = 7) (hr : ∀ n ∈ cs, 0 ≤ n ∧ n < 16) : ∀ k f l, k < 2 → f < l → l < 7 → (segT (rowsOf cs) k f l).cps.all (· < 128) = true ∧ (segT (rowsOf cs) k f l).cps.size ≤ 1000 ∧ (strip (segT (rowsOf cs) k f l)).cps.all (· < 128) = true := by
  intro k f l hk _ _
  obtain ⟨s1, s2⟩ := cps_small hk (win cs f (l + 1)) (win_mem hr)
  have hl : (win cs f (l + 1)).length ≤ 7 := by unfold win; rw [List.length_take, List.length_drop]; omega
  have o := okT_of (x := segT (rowsOf cs) k f l) (by rw [seg_cps hk]; exact s1) (by rw [seg_cps hk]; omega)
  exact ⟨o.a, o.b, o.c⟩
theorem part_len1 {n : Int} (hr : 0 ≤ n ∧ n < 16) {k : Nat} (hk : k < 2) : (part (k : Int) n).length ≤ 5 := by
  obtain ⟨a, ha, rfl, hp⟩ := piece hr hk
  have := (pl_small a ha (a % 2 == k)).2
  rw [← hp] at this
  simpa [Str.length] using this
theorem part_len {cs : List Int} (hr : ∀ n ∈ cs, 0 ≤ n ∧ n < 16) : ∀ x ∈ cs.map (part 0) ++ cs.map (part 1), x.length ≤ 100 := by
  intro x hx
  rcases List.mem_append.mp hx with hx | hx
  · obtain ⟨n, hn, rfl⟩ := List.mem_map.mp hx
    exact Nat.le_trans (part_len1 (hr n hn) (k := 0) (by decide)) (by decide)
  · obtain ⟨n, hn, rfl⟩ := List.mem_map.mp hx
    exact Nat.le_trans (part_len1 (hr n hn) (k := 1) (by decide)) (by decide)
theorem row_sum {cs : List Int} (h7 : cs.length = 7) (hr : ∀ n ∈ cs, 0 ≤ n ∧ n < 16) (j : Nat) (hj : j < 2) : (((rowsOf cs).getD j []).map fun x => x.length).sum + ((rowsOf cs).getD j []).length ≤ 1048576 := by
  rw [rows_at hj]
  have h := sum_le (cs.map (part j)) 5 fun y hy => by
    obtain ⟨n, hn, rfl⟩ := List.mem_map.mp hy
    exact part_len1 (hr n hn) hj
  rw [List.length_map] at h ⊢
  have : ((cs.map (part j)).map fun x => x.length).sum = ((cs.map (part j)).map (·.length)).sum := rfl
  omega
theorem str_app (x y : Str) : (x ++ y).cps.toList = x.cps.toList ++ y.cps.toList := by
  obtain ⟨x⟩ := x; obtain ⟨y⟩ := y
  show (x ++ y).toList = x.toList ++ y.toList
  simp
theorem mul_cps (c : Nat) (n : Int) : (Txt.mul ⟨#[c]⟩ n).cps.toList = List.replicate n.toNat c := by
  have key : ∀ (j : Nat) (a : Array Nat), ((List.replicate j #[c]).foldl (· ++ ·) a).toList = a.toList ++ List.replicate j c := by
    intro j
    induction j with
    | zero => intro a; simp
    | succ j ih => intro a; rw [List.replicate_succ, List.foldl_cons, ih, List.replicate_succ]; simp
  unfold Txt.mul
  split
  · rename_i h
    rw [show n.toNat = 0 by omega]; rfl
  · split
    · rename_i h1 h
      have e : n = 1 := by
        have h' : (n == 1 || (1 : Nat) == 0) = true := h
        simpa using h'
      rw [e]; rfl
    · exact (key n.toNat #[]).trans (by simp)
theorem run_open (R : List Nat) (m : Int) : run (40 :: R) m = run R (m + 1) := rfl
theorem run_close (R : List Nat) (m : Int) : run (41 :: R) m = if m - 1 < 0 then false else run R (m - 1) := rfl
theorem run_opens : ∀ (a : Nat) (R : List Nat) (m : Int), run (List.replicate a 40 ++ R) m = run R (m + a)
  | 0, R, m => by simp
  | a + 1, R, m => by
    rw [List.replicate_succ, List.cons_append, run_open, run_opens a]
    congr 1; push_cast; omega
theorem run_closes : ∀ (b : Nat) (R : List Nat) (m : Int), (b : Int) ≤ m → run (List.replicate b 41 ++ R) m = run R (m - b)
  | 0, R, m, _ => by simp
  | b + 1, R, m, h => by
    rw [List.replicate_succ, List.cons_append, run_close, if_neg (by push_cast at h; omega), run_closes b R _ (by push_cast at h; omega)]
    congr 1; push_cast; omega
theorem chkL_closes : ∀ (b : Nat) (m : Int), m = b → chkL false (List.replicate b 41) m = true
  | 0, m, h => by rw [h]; rfl
  | b + 1, m, h => by
    show (if m - 1 < 0 then false else chkL false (List.replicate b 41) (m - 1)) = true
    rw [if_neg (by omega), chkL_closes b _ (by push_cast at h; omega)]
theorem stp_closes : ∀ (b : Nat) (q : List Nat), stp (some q) false (List.replicate b 41) = q ++ List.replicate b 41
  | 0, q => by show q = _; simp
  | b + 1, q => by
    show stp (some (q ++ [41])) false (List.replicate b 41) = _
    rw [stp_closes b, List.replicate_succ]; simp
theorem run_end (b : Nat) (m : Int) (h : m = b) : run (40 :: 34 :: List.replicate (b + 1) 41) m = true := by
  show chkL false (40 :: stp (some [34]) false (List.replicate (b + 1) 41)) m = true
  rw [stp_closes]
  show chkL false (List.replicate (b + 1) 41) (m + 1) = true
  exact chkL_closes _ _ (by push_cast; omega)
/-- what a kind's counts must do -/
structure BalOk (k : Nat) (cs : List Int) (a b : Nat) : Prop where
  p : bal k cs a = some b
  q : bal k cs (a + 1) = some (b + 1)
  r : 0 < a → bal k cs ((a : Int) - 1) = none
end Mine
end
section
theorem Mine.walk_reset_Q4 : True := by
  w_top off
  trivial
open PySem PySem.W PyProof.Rows
set_option maxRecDepth 100000
set_option maxHeartbeats 2000000
namespace Mine
theorem po_cps (n : Int) : (po n).cps.toList = List.replicate n.toNat 40 := by unfold po; rw [str_po, mul_cps]
theorem pc_cps (n : Int) : (pc n).cps.toList = List.replicate n.toNat 41 := by unfold pc; rw [str_pc, mul_cps]
theorem txt_cps {cs : List Int} {j : Nat} (hj : j < 2) : (txt cs j).cps.toList = cpsL j cs := by
  unfold txt
  rw [join_cps, rows_at hj, List.flatMap_map]; rfl
theorem tot {cs : List Int} (hr : ∀ n ∈ cs, 0 ≤ n ∧ n < 16) {j : Nat} (hj : j < 2) (a : Nat) (R : List Nat) : run (List.replicate a 40 ++ (cpsL j cs ++ R)) 0 = match bal j cs a with
    | none => false
    | some m' => run R m' := by
  rw [run_opens, run_cells hj cs R _ hr, Int.zero_add]
  all_goals (cases bal (j : Int) cs (a : Int) <;> rfl)
theorem q1 : (Str.ofString "(\"").cps.toList = [40, 34] := by decide
theorem q2 : (Str.ofString ")").cps.toList = [41] := by decide
theorem q3 : (Str.ofString "(").cps.toList = [40] := by decide
theorem q4 : (Str.ofString "()").cps.toList = [40, 41] := by decide
theorem q5 : (Str.ofString "(()").cps.toList = [40, 40, 41] := by decide
theorem rep_small (a c : Nat) (hc : c < 128) : ∀ y ∈ List.replicate a c, y < 128 := fun y hy => by rw [List.eq_of_mem_replicate hy]; exact hc
theorem taken_of {cs : List Int} (h7 : cs.length = 7) (hr : ∀ n ∈ cs, 0 ≤ n ∧ n < 16) {j : Nat} (hj : j < 2) {a b : Nat} (ha : a ≤ 7) (hb : b ≤ 7) (B : BalOk j cs a b) :
    (OkT (tA (txt cs j) a b) ∧ check (tA (txt cs j) a b) = true) ∧ (OkT (tB (txt cs j) a b) ∧ check (tB (txt cs j) a b) = false) ∧
    ((a : Int) > 0 → (OkT (tC (txt cs j) a b) ∧ check (tC (txt cs j) a b) = false) ∧ OkT (tD (txt cs j) a b) ∧ check (tD (txt cs j) a b) = false) ∧ (txt cs j).length ≤ 100 := by
  obtain ⟨s1, s2⟩ := cps_small hj cs hr
  rw [h7] at s2
  have ea : ((a : Int)).toNat = a := Int.toNat_natCast a
  have eb : ((b : Int)).toNat = b := Int.toNat_natCast b
  have eA : (tA (txt cs j) a b).cps.toList = List.replicate a 40 ++ (cpsL j cs ++ (40 :: 34 :: List.replicate (b + 1) 41)) := by
    unfold tA
    rw [str_app, str_app, str_app, str_app, po_cps, pc_cps, txt_cps hj, q1, q2, ea, eb, List.replicate_succ']
    simp
  have eB : (tB (txt cs j) a b).cps.toList = List.replicate (a + 1) 40 ++ (cpsL j cs ++ (List.replicate b 41 ++ [])) := by
    unfold tB
    rw [str_app, str_app, str_app, po_cps, pc_cps, txt_cps hj, q3, ea, eb, List.replicate_succ']
    simp
  have eF : (tF (txt cs j) a b).cps.toList = List.replicate (a - 1) 40 ++ (cpsL j cs ++ List.replicate b 41) := by
    unfold tF
    rw [str_app, str_app, po_cps, pc_cps, txt_cps hj, eb, show ((a : Int) - 1).toNat = a - 1 by omega]
    simp
  have small : ∀ (x : Str) (l1 l2 : List Nat), x.cps.toList = l1 ++ (cpsL j cs ++ l2) → (∀ y ∈ l1, y < 128) → (∀ y ∈ l2, y < 128) → l1.length + l2.length ≤ 900 → OkT x := by
    intro x l1 l2 e h1 h2 hl
    refine okT_of (fun y hy => ?_) ?_
    · rw [e] at hy
      rcases List.mem_append.mp hy with h | h
      · exact h1 y h
      · rcases List.mem_append.mp h with h | h
        · exact s1 y h
        · exact h2 y h
    · rw [e, List.length_append, List.length_append]; omega
  refine ⟨⟨small _ _ _ eA (rep_small _ _ (by decide)) (fun y hy => ?_) (by simp; omega), ?_⟩, ⟨small _ _ _ eB (rep_small _ _ (by decide)) (fun y hy => ?_) (by simp; omega), ?_⟩, fun h0 => ⟨⟨?_, ?_⟩, ?_, ?_⟩, ?_⟩
  · rcases List.mem_cons.mp hy with rfl | hy
    · decide
    rcases List.mem_cons.mp hy with rfl | hy
    · decide
    · exact rep_small _ 41 (by decide) y hy
  · rw [check_run, eA, tot hr hj, B.p]
    exact run_end b b rfl
  · rw [List.append_nil] at hy; exact rep_small _ 41 (by decide) y hy
  · rw [check_run, eB, tot hr hj, show ((a + 1 : Nat) : Int) = (a : Int) + 1 by push_cast; rfl, B.q]
    show run (List.replicate b 41 ++ []) ((b : Int) + 1) = false
    rw [run_closes b [] _ (by omega)]
    show ((b : Int) + 1 - b == 0) = false
    rw [show (b : Int) + 1 - b = 1 by omega]; rfl
  · have e : (tC (txt cs j) a b).cps.toList = List.replicate (a - 1) 40 ++ (cpsL j cs ++ (List.replicate b 41 ++ [41])) := by
      unfold tC
      rw [str_app, eF, q2]; simp
    refine small _ _ _ e (rep_small _ _ (by decide)) (fun y hy => ?_) (by simp; omega)
    rcases List.mem_append.mp hy with h | h
    · exact rep_small _ 41 (by decide) y h
    · rw [List.mem_singleton.mp h]; decide
  · have e : (tC (txt cs j) a b).cps.toList = List.replicate (a - 1) 40 ++ (cpsL j cs ++ (List.replicate b 41 ++ [41])) := by
      unfold tC
      rw [str_app, eF, q2]; simp
    rw [check_run, e, tot hr hj, show ((a - 1 : Nat) : Int) = (a : Int) - 1 by omega, B.r (by omega)]
  · have e : (tD (txt cs j) a b).cps.toList = (40 :: 41 :: List.replicate (a - 1) 40) ++ (cpsL j cs ++ (List.replicate b 41 ++ [40, 40, 41])) := by
      unfold tD
      rw [str_app, str_app, eF, q4, q5]; simp
    refine small _ _ _ e (fun y hy => ?_) (fun y hy => ?_) (by simp; omega)
    · rcases List.mem_cons.mp hy with rfl | hy
      · decide
      rcases List.mem_cons.mp hy with rfl | hy
      · decide
      · exact rep_small _ 40 (by decide) y hy
    · rcases List.mem_append.mp hy with h | h
      · exact rep_small _ 41 (by decide) y h
      · simp at h; omega
  · have e : (tD (txt cs j) a b).cps.toList = 40 :: 41 :: (List.replicate (a - 1) 40 ++ (cpsL j cs ++ (List.replicate b 41 ++ [40, 40, 41]))) := by
      unfold tD
      rw [str_app, str_app, eF, q4, q5]; simp
    rw [check_run, e, run_open, run_close, if_neg (by decide), show (0 : Int) + 1 - 1 = 0 by decide, tot hr hj, show ((a - 1 : Nat) : Int) = (a : Int) - 1 by omega, B.r (by omega)]
  · have : (txt cs j).length = (txt cs j).cps.toList.length := by simp [Str.length]
    rw [this, txt_cps hj]; omega
end Mine
end
section
theorem Mine.walk_reset_Q5 : True := by
  w_top off
  trivial
open PySem PySem.W PyProof.Rows
set_option maxRecDepth 100000
set_option maxHeartbeats 2000000
namespace Mine
theorem bal_app (k : Int) : ∀ (w v : List Int) (m : Int), bal k (w ++ v) m = (bal k w m).bind (bal k v)
  | [], v, m => rfl
  | n :: w, v, m => by
    show (match bstep k m n with
      | none => none
      | some m' => bal k (w ++ v) m') = (match bstep k m n with
      | none => none
      | some m' => bal k w m').bind (bal k v)
    cases bstep k m n with
    | none => rfl
    | some m' => exact bal_app k w v m'
theorem bstep_shift {k m n m' d : Int} (h : bstep k m n = some m') (hd : 0 ≤ d) : bstep k (m + d) n = some (m' + d) := by
  unfold bstep at h ⊢
  split at h
  · rename_i h2
    rw [if_pos h2]
    split at h
    · rename_i h4
      rw [if_pos h4]
      injection h with h
      congr 1; omega
    · rename_i h4
      rw [if_neg h4]
      split at h
      · cases h
      · rename_i h0
        injection h with h
        rw [if_neg (by omega)]
        congr 1; omega
  · rename_i h2
    rw [if_neg h2]
    injection h with h
    congr 1; omega
theorem bal_shift {k d : Int} (hd : 0 ≤ d) : ∀ (w : List Int) (m m' : Int), bal k w m = some m' → bal k w (m + d) = some (m' + d)
  | [], m, m', h => by
    have h' : some m = some m' := h
    injection h' with h'
    show some (m + d) = _
    rw [h']
  | n :: w, m, m', h => by
    have h' : (match bstep k m n with
      | none => none
      | some m1 => bal k w m1) = some m' := h
    show (match bstep k (m + d) n with
      | none => none
      | some m1 => bal k w m1) = some (m' + d)
    cases e : bstep k m n with
    | none => rw [e] at h'; cases h'
    | some m1 =>
      rw [e] at h'
      rw [bstep_shift e hd]
      exact bal_shift hd w m1 m' h'
theorem win_snoc {cs : List Int} {f l : Nat} (h : f ≤ l) (hl : l < cs.length) : win cs f (l + 1) = win cs f l ++ [cs.getD l 0] := by
  unfold win
  rw [show l + 1 - f = (l - f) + 1 by omega, List.take_add_one, List.getElem?_drop, show f + (l - f) = l by omega, List.getElem?_eq_getElem hl, List.getD_eq_getElem?_getD, List.getElem?_eq_getElem hl]
  rfl
theorem win_nil (cs : List Int) (f : Nat) : win cs f f = [] := by unfold win; rw [Nat.sub_self, List.take_zero]
theorem win_join {cs : List Int} {a b c : Nat} (h1 : a ≤ b) (h2 : b ≤ c) : win cs a c = win cs a b ++ win cs b c := by
  unfold win
  rw [show c - a = (b - a) + (c - b) by omega, List.take_add, List.drop_drop, show a + (b - a) = b by omega]
/-- the balance of a stretch -/
def Bw (cs : List Int) (k : Int) (f l : Nat) : Option Int := bal k (win cs f l) 0
theorem Bw_self (cs : List Int) (k : Int) (f : Nat) : Bw cs k f f = some 0 := by unfold Bw; rw [win_nil]; rfl
theorem Bw_succ {cs : List Int} {k : Int} {f l : Nat} (h : f ≤ l) (hl : l < cs.length) : Bw cs k f (l + 1) = (Bw cs k f l).bind fun m => bstep k m (cs.getD l 0) := by
  unfold Bw
  rw [win_snoc h hl, bal_app]
  cases bal k (win cs f l) 0 with
  | none => rfl
  | some m =>
    show (match bstep k m (cs.getD l 0) with
      | none => none
      | some m' => some m') = bstep k m (cs.getD l 0)
    cases bstep k m (cs.getD l 0) <;> rfl
theorem bstep_op {k m n : Int} (h : n % 4 = k) (hk : k = 0 ∨ k = 1) : bstep k m n = some (m + 1) := by
  unfold bstep; rw [if_pos (by omega), if_pos (by omega)]
theorem bstep_cl {k m n : Int} (h : n % 4 = k + 2) (hk : k = 0 ∨ k = 1) : bstep k m n = if m - 1 < 0 then none else some (m - 1) := by
  unfold bstep; rw [if_pos (by omega), if_neg (by omega)]
theorem bstep_no {k m n : Int} (h1 : n % 4 ≠ k) (h2 : n % 4 ≠ k + 2) (hk : k = 0 ∨ k = 1) : bstep k m n = some m := by
  unfold bstep; rw [if_neg (by omega)]
/-- the mate of an opening bracket -/
structure Mt (cs : List Int) (k : Int) (f l : Nat) : Prop where
  lt : f < l
  l7 : l < 7
  op : cs.getD f 0 % 4 = k
  cl : cs.getD l 0 % 4 = k + 2
  z : Bw cs k f (l + 1) = some 0
  pos : ∀ h, f < h → h ≤ l → ∃ d, Bw cs k f h = some d ∧ 0 < d
theorem Mt.same {cs : List Int} {k : Int} {f l l' : Nat} (a : Mt cs k f l) (b : Mt cs k f l') : l = l' := by
  rcases Nat.lt_trichotomy l l' with h | h | h
  · obtain ⟨d, e, hd⟩ := b.pos (l + 1) (by have := a.lt; omega) h
    rw [a.z] at e; injection e with e; omega
  · exact h
  · obtain ⟨d, e, hd⟩ := a.pos (l' + 1) (by have := b.lt; omega) h
    rw [b.z] at e; injection e with e; omega
theorem Mt.inj1 {cs : List Int} {k : Int} {f f' l : Nat} (a : Mt cs k f l) (b : Mt cs k f' l) (h : f < f') : False := by
  obtain ⟨d, e, hd⟩ := a.pos f' h (Nat.le_of_lt b.lt)
  have h1 : Bw cs k f (l + 1) = some (0 + d) := by
    unfold Bw at e ⊢
    have hz := b.z
    unfold Bw at hz
    rw [win_join (Nat.le_of_lt h) (by have := b.lt; omega : f' ≤ l + 1), bal_app, e]
    show bal k (win cs f' (l + 1)) d = _
    have := bal_shift (Int.le_of_lt hd) _ _ _ hz
    rw [Int.zero_add] at this ⊢
    exact this
  rw [a.z] at h1; injection h1 with h1; omega
theorem Mt.inj {cs : List Int} {k : Int} {f f' l : Nat} (a : Mt cs k f l) (b : Mt cs k f' l) : f = f' := by
  rcases Nat.lt_trichotomy f f' with h | h | h
  · exact (a.inj1 b h).elim
  · exact h
  · exact (b.inj1 a h).elim
/-- the step's condition, the list of mates aside -/
def cond (cs : List Int) (f l : Nat) : Bool := decide (cs.getD f 0 % 4 < 2) && (decide (cs.getD l 0 % 4 = cs.getD f 0 % 4 + 2) && decide (Bw cs (cs.getD f 0 % 4) f (l + 1) = some 0))
def mt (cs : List Int) (f : Nat) : Option Nat := (List.range' (f + 1) (6 - f)).find? (cond cs f)
theorem find_range {p : Nat → Bool} : ∀ (n a l : Nat), (List.range' a n).find? p = some l ↔ (a ≤ l ∧ l < a + n ∧ p l = true ∧ ∀ j, a ≤ j → j < l → p j = false)
  | 0, a, l => by simp; omega
  | n + 1, a, l => by
    rw [List.range'_succ, List.find?_cons]
    by_cases h : p a = true
    · rw [h]
      constructor
      · intro e
        injection e with e
        subst e
        exact ⟨Nat.le_refl _, by omega, h, fun j h1 h2 => absurd h1 (by omega)⟩
      · rintro ⟨h1, h2, h3, h4⟩
        by_cases e : a = l
        · rw [e]
        · have := h4 a (Nat.le_refl _) (by omega)
          rw [h] at this; cases this
    · rw [Bool.eq_false_iff.mpr h]
      show (List.range' (a + 1) n).find? p = some l ↔ _
      rw [find_range n (a + 1) l]
      constructor
      · rintro ⟨h1, h2, h3, h4⟩
        refine ⟨by omega, by omega, h3, fun j hj1 hj2 => ?_⟩
        by_cases e : a = j
        · rw [← e]; exact Bool.eq_false_iff.mpr h
        · exact h4 j (by omega) hj2
      · rintro ⟨h1, h2, h3, h4⟩
        have : a ≠ l := fun e => h (e ▸ h3)
        exact ⟨by omega, by omega, h3, fun j hj1 hj2 => h4 j (by omega) hj2⟩
theorem kind2 {n : Int} (h : n % 4 < 2) : n % 4 = 0 ∨ n % 4 = 1 := by omega
theorem cond_iff {cs : List Int} {f l : Nat} : cond cs f l = true ↔ cs.getD f 0 % 4 < 2 ∧ cs.getD l 0 % 4 = cs.getD f 0 % 4 + 2 ∧ Bw cs (cs.getD f 0 % 4) f (l + 1) = some 0 := by
  unfold cond
  rw [Bool.and_eq_true, Bool.and_eq_true, decide_eq_true_iff, decide_eq_true_iff, decide_eq_true_iff]
theorem mt_iff {cs : List Int} (h7 : cs.length = 7) {f l : Nat} (hf : f < 7) : mt cs f = some l ↔ (cs.getD f 0 % 4 < 2 ∧ Mt cs (cs.getD f 0 % 4) f l) := by
  unfold mt
  rw [find_range]
  constructor
  · rintro ⟨h1, h2, h3, h4⟩
    obtain ⟨c1, c2, c3⟩ := cond_iff.mp h3
    refine ⟨c1, by omega, by omega, rfl, c2, c3, fun h => ?_⟩
    induction h with
    | zero => intro h5; omega
    | succ h ih =>
      intro h5 h6
      by_cases e : f = h
      · subst e
        refine ⟨1, ?_, by decide⟩
        rw [Bw_succ (Nat.le_refl _) (by omega), Bw_self]
        exact bstep_op rfl (kind2 c1)
      · obtain ⟨d, hd, hd0⟩ := ih (by omega) (by omega)
        rw [Bw_succ (by omega) (by omega), hd]
        show ∃ d', bstep (cs.getD f 0 % 4) d (cs.getD h 0) = some d' ∧ 0 < d'
        by_cases o1 : cs.getD h 0 % 4 = cs.getD f 0 % 4
        · exact ⟨d + 1, bstep_op o1 (kind2 c1), by omega⟩
        · by_cases o2 : cs.getD h 0 % 4 = cs.getD f 0 % 4 + 2
          · have hz : bstep (cs.getD f 0 % 4) d (cs.getD h 0) = some (d - 1) := by rw [bstep_cl o2 (kind2 c1), if_neg (by omega)]
            refine ⟨d - 1, hz, ?_⟩
            by_cases e1 : d = 1
            · have : cond cs f h = true := cond_iff.mpr ⟨c1, o2, by
                rw [Bw_succ (by omega) (by omega), hd]
                show bstep (cs.getD f 0 % 4) d (cs.getD h 0) = some 0
                rw [hz, e1]; rfl⟩
              rw [h4 h (by omega) (by omega)] at this; cases this
            · omega
          · exact ⟨d, bstep_no o1 o2 (kind2 c1), hd0⟩
  · rintro ⟨c1, M⟩
    refine ⟨M.lt, by have := M.l7; omega, cond_iff.mpr ⟨c1, M.cl, M.z⟩, fun j h1 h2 => ?_⟩
    rw [Bool.eq_false_iff]
    intro hc
    obtain ⟨_, _, c3⟩ := cond_iff.mp hc
    obtain ⟨d, e, hd⟩ := M.pos (j + 1) (by omega) h2
    rw [c3] at e; injection e with e; omega
end Mine
end
section
theorem Mine.walk_reset_Q6 : True := by
  w_top off
  trivial
open PySem PySem.W PyProof.Rows
set_option maxRecDepth 100000
set_option maxHeartbeats 2000000
namespace Mine
theorem getD_set {m : List Int} {i j : Nat} {x : Int} (hi : i < m.length) : (m.set i x).getD j 0 = if i = j then x else m.getD j 0 := by
  rw [List.getD_eq_getElem?_getD, List.getD_eq_getElem?_getD, List.getElem?_set]
  by_cases e : i = j
  · rw [if_pos e, if_pos e, if_pos hi]; rfl
  · rw [if_neg e, if_neg e]
def setP (m : List Int) (f l : Nat) : List Int := (m.set f (l : Int)).set l (f : Int)
theorem setP_len (m : List Int) (f l : Nat) : (setP m f l).length = m.length := by unfold setP; rw [List.length_set, List.length_set]
theorem setP_at {m : List Int} {f l j : Nat} (hf : f < m.length) (hl : l < m.length) : (setP m f l).getD j 0 = if l = j then (f : Int) else if f = j then (l : Int) else m.getD j 0 := by
  unfold setP
  rw [getD_set (by rw [List.length_set]; exact hl), getD_set hf]
theorem inner {P : Nat → Bool} {f : Nat} (st : List Int → Nat → List Int) : ∀ (ls : List Nat) (m : List Int), (∀ l ∈ ls, f ≠ l ∧ l < m.length) → f < m.length → (∀ l ∈ ls, ∀ m, st m l = if m.getD f 0 < 0 ∧ P l = true then setP m f l else m) →
    ls.foldl st m = if m.getD f 0 < 0 then (match ls.find? P with
      | some l => setP m f l
      | none => m) else m
  | [], m, _, _, _ => by
    show m = if _ then m else m
    split <;> rfl
  | l :: ls, m, hl, hf, hst => by
    rw [List.foldl_cons, hst l (.head _)]
    obtain ⟨hfl, hlm⟩ := hl l (.head _)
    by_cases h0 : m.getD f 0 < 0
    · rw [if_pos h0]
      by_cases hp : P l = true
      · rw [if_pos ⟨h0, hp⟩, inner st ls _ (fun l' h' => by rw [setP_len]; exact hl l' (.tail _ h')) (by rw [setP_len]; exact hf) fun l' h' => hst l' (.tail _ h')]
        rw [setP_at hf hlm, if_neg (Ne.symm hfl), if_pos rfl, if_neg (by omega), List.find?_cons, hp]
      · rw [if_neg (fun z => hp z.2), inner st ls m (fun l' h' => hl l' (.tail _ h')) hf fun l' h' => hst l' (.tail _ h'), if_pos h0, List.find?_cons, Bool.eq_false_iff.mpr hp]
    · rw [if_neg (fun z => h0 z.1), inner st ls m (fun l' h' => hl l' (.tail _ h')) hf fun l' h' => hst l' (.tail _ h'), if_neg h0, if_neg h0]
theorem step_eq {cs : List Int} (hr : ∀ n ∈ cs, 0 ≤ n ∧ n < 16) {f l : Nat} (m : List Int) : mateStep cs (rowsOf cs) f m l = if m.getD f 0 < 0 ∧ cond cs f l = true then setP m f l else m := by
  unfold mateStep setP
  have key : (cs.getD f 0 % 4 < 2 ∧ cs.getD l 0 % 4 = cs.getD f 0 % 4 + 2 ∧ check (segT (rowsOf cs) (cs.getD f 0 % 2).toNat f l) = true) ↔ cond cs f l = true := by
    rw [cond_iff]
    constructor
    · rintro ⟨c1, c2, c3⟩
      refine ⟨c1, c2, ?_⟩
      have hk : (cs.getD f 0 % 2).toNat < 2 := by omega
      rw [check_seg hr hk, show (((cs.getD f 0 % 2).toNat : Nat) : Int) = cs.getD f 0 % 4 by omega] at c3
      exact c3
    · rintro ⟨c1, c2, c3⟩
      refine ⟨c1, c2, ?_⟩
      have hk : (cs.getD f 0 % 2).toNat < 2 := by omega
      rw [check_seg hr hk, show (((cs.getD f 0 % 2).toNat : Nat) : Int) = cs.getD f 0 % 4 by omega]
      exact c3
  by_cases h0 : m.getD f 0 < 0
  · by_cases hc : cond cs f l = true
    · rw [if_pos ⟨h0, key.mpr hc⟩, if_pos ⟨h0, hc⟩]
    · rw [if_neg (fun z => hc (key.mp z.2)), if_neg (fun z => hc z.2)]
  · rw [if_neg (fun z => h0 z.1), if_neg (fun z => h0 z.1)]
structure MI (cs : List Int) (j : Nat) (m : List Int) : Prop where
  len : m.length = 7
  set : ∀ f, f < j → ∀ l, mt cs f = some l → m.getD f 0 = (l : Int) ∧ m.getD l 0 = (f : Int)
  non : ∀ p, p < 7 → (∀ l, p < j → mt cs p ≠ some l) → (∀ f, f < j → mt cs f ≠ some p) → m.getD p 0 = -1
theorem mi_step {cs : List Int} (h7 : cs.length = 7) (hr : ∀ n ∈ cs, 0 ≤ n ∧ n < 16) {j : Nat} (hj : j < 7) {m : List Int} (X : MI cs j m) : MI cs (j + 1) ((List.range' (j + 1) (6 - j)).foldl (mateStep cs (rowsOf cs) j) m) := by
  rw [inner (P := cond cs j) (mateStep cs (rowsOf cs) j) _ m (fun l hl => by rw [List.mem_range'_1] at hl; rw [X.len]; omega) (by rw [X.len]; exact hj) (fun l _ m => step_eq hr m)]
  have hmt : (List.range' (j + 1) (6 - j)).find? (cond cs j) = mt cs j := rfl
  rw [hmt]
  cases e : mt cs j with
  | none =>
    have e1 : (if m.getD j 0 < 0 then (match (none : Option Nat) with
      | some l => setP m j l
      | none => m) else m) = m := by split <;> rfl
    rw [e1]
    refine ⟨X.len, fun f hf l hl => ?_, fun p hp h1 h2 => X.non p hp (fun l hl => h1 l (by omega)) (fun f hf => h2 f (by omega))⟩
    by_cases ef : f = j
    · rw [ef, e] at hl; cases hl
    · exact X.set f (by omega) l hl
  | some l =>
    obtain ⟨oj, M⟩ := (mt_iff h7 hj).mp e
    have hl7 := M.l7
    have hjl := M.lt
    have hm1 : m.getD j 0 = -1 := X.non j hj (fun l hl => absurd hl (Nat.lt_irrefl _)) (fun f hf hh => by
      obtain ⟨of, M'⟩ := (mt_iff h7 (by omega)).mp hh
      have := M'.cl
      omega)
    rw [if_pos (by rw [hm1]; decide)]
    show MI cs (j + 1) (setP m j l)
    have sat : ∀ p, (setP m j l).getD p 0 = if l = p then (j : Int) else if j = p then (l : Int) else m.getD p 0 := fun p => setP_at (by rw [X.len]; exact hj) (by rw [X.len]; exact hl7)
    refine ⟨by rw [setP_len]; exact X.len, fun f hf l' hl' => ?_, fun p hp h1 h2 => ?_⟩
    · by_cases ef : f = j
      · subst ef
        rw [e] at hl'
        injection hl' with hl'
        subst hl'
        rw [sat, sat, if_neg (by omega), if_pos rfl, if_pos rfl]
        exact ⟨rfl, rfl⟩
      · obtain ⟨of, M'⟩ := (mt_iff h7 (by omega)).mp hl'
        obtain ⟨s1, s2⟩ := X.set f (by omega) l' hl'
        have c1 := M'.cl
        have c2 := M.cl
        have n1 : l ≠ f := fun z => by rw [z] at c2; omega
        have n2 : l' ≠ j := fun z => by rw [z] at c1; omega
        have n3 : l ≠ l' := fun z => by
          rw [← z] at M' c1
          have ek : cs.getD f 0 % 4 = cs.getD j 0 % 4 := by omega
          rw [ek] at M'
          exact ef (M'.inj M)
        rw [sat, sat, if_neg n1, if_neg (fun z => ef z.symm), if_neg n3, if_neg (fun z => n2 z.symm)]
        exact ⟨s1, s2⟩
    · have n1 : l ≠ p := fun z => h2 j (by omega) (z ▸ e)
      have n2 : j ≠ p := fun z => h1 l (by omega) (z ▸ e)
      rw [sat, if_neg n1, if_neg n2]
      exact X.non p hp (fun l hl => h1 l (by omega)) (fun f hf => h2 f (by omega))
theorem mi_all {cs : List Int} (h7 : cs.length = 7) (hr : ∀ n ∈ cs, 0 ≤ n ∧ n < 16) : ∀ (n j : Nat) (m : List Int), j + n = 7 → MI cs j m → MI cs 7 ((List.range' j n).foldl (fun m f => (List.range' (f + 1) (6 - f)).foldl (mateStep cs (rowsOf cs) f) m) m)
  | 0, j, m, h, X => by rw [show j = 7 by omega] at X; exact X
  | n + 1, j, m, h, X => by
    rw [List.range'_succ, List.foldl_cons]
    exact mi_all h7 hr n (j + 1) _ (by omega) (mi_step h7 hr (by omega) X)
theorem ms_all {cs : List Int} (h7 : cs.length = 7) (hr : ∀ n ∈ cs, 0 ≤ n ∧ n < 16) : MI cs 7 (msOf cs) := by
  have X0 : MI cs 0 (List.replicate 7 (-1)) := by
    refine ⟨List.length_replicate, fun f hf => absurd hf (Nat.not_lt_zero _), fun p hp _ _ => ?_⟩
    rw [List.getD_eq_getElem?_getD, List.getElem?_replicate, if_pos hp]; rfl
  have h := mi_all h7 hr 7 0 _ (by decide) X0
  unfold msOf matesF
  exact h
/-- the list of mates, in terms of Mt -/
structure Ms (cs m : List Int) : Prop where
  len : m.length = 7
  mate : ∀ k f l, (k = 0 ∨ k = 1) → Mt cs k f l → m.getD f 0 = (l : Int) ∧ m.getD l 0 = (f : Int)
  op : ∀ k f, (k = 0 ∨ k = 1) → f < 7 → cs.getD f 0 % 4 = k → (∀ l, ¬ Mt cs k f l) → m.getD f 0 = -1
  cl : ∀ k l, (k = 0 ∨ k = 1) → l < 7 → cs.getD l 0 % 4 = k + 2 → (∀ f, ¬ Mt cs k f l) → m.getD l 0 = -1
theorem ms_ok {cs : List Int} (h7 : cs.length = 7) (hr : ∀ n ∈ cs, 0 ≤ n ∧ n < 16) : Ms cs (msOf cs) := by
  have X := ms_all h7 hr
  refine ⟨X.len, fun k f l hk M => ?_, fun k f hk hf ho hn => ?_, fun k l hk hl hc hn => ?_⟩
  · have hf : f < 7 := Nat.lt_trans M.lt M.l7
    exact X.set f hf l ((mt_iff h7 hf).mpr ⟨by rw [M.op]; omega, by rw [M.op]; exact M⟩)
  · refine X.non f hf (fun l _ e => ?_) (fun f' hf' e => ?_)
    · obtain ⟨_, M⟩ := (mt_iff h7 hf).mp e
      rw [ho] at M
      exact hn l M
    · obtain ⟨o, M⟩ := (mt_iff h7 hf').mp e
      have := M.cl
      omega
  · refine X.non l hl (fun l' _ e => ?_) (fun f hf e => ?_)
    · obtain ⟨o, M⟩ := (mt_iff h7 hl).mp e
      omega
    · obtain ⟨o, M⟩ := (mt_iff h7 hf).mp e
      have := M.cl
      have ek : cs.getD f 0 % 4 = k := by omega
      rw [ek] at M
      exact hn f M
/-- a matesF is seven long whatever the cells -/
theorem foldl_len {α : Type} {st : List Int → α → List Int} (h : ∀ m a, (st m a).length = m.length) : ∀ (l : List α) (m : List Int), (l.foldl st m).length = m.length
  | [], m => rfl
  | a :: l, m => by rw [List.foldl_cons, foldl_len h l, h]
theorem mateStep_len (cs : List Int) (rows : List (List Str)) (f : Nat) (m : List Int) (l : Nat) : (mateStep cs rows f m l).length = m.length := by
  unfold mateStep
  split
  · rw [List.length_set, List.length_set]
  · rfl
theorem mates_len (cs : List Int) : (msOf cs).length = 7 := by
  have h := foldl_len (st := fun (m : List Int) (f : Nat) => (List.range' (f + 1) (6 - f)).foldl (mateStep cs (rowsOf cs) f) m) (fun m f => foldl_len (mateStep_len cs (rowsOf cs) f) (List.range' (f + 1) (6 - f)) m) (List.range' 0 7) (List.replicate 7 (-1))
  exact h.trans List.length_replicate
end Mine
end
section
theorem Mine.walk_reset_Q7 : True := by
  w_top off
  trivial
open PySem PySem.W PyProof.Rows
set_option maxRecDepth 100000
set_option maxHeartbeats 2000000
namespace Mine
/-- what a stretch leaves alone, of one kind: the closing ones in order, the opening ones, the last first -/
def rn (cs : List Int) (k : Int) (lo : Nat) : Nat → List Nat × List Nat
  | 0 => ([], [])
  | n + 1 => if cs.getD (lo + n) 0 % 4 = k then ((rn cs k lo n).1, (lo + n) :: (rn cs k lo n).2)
    else if cs.getD (lo + n) 0 % 4 = k + 2 then (match (rn cs k lo n).2 with
      | [] => ((rn cs k lo n).1 ++ [lo + n], [])
      | _ :: S => ((rn cs k lo n).1, S))
    else rn cs k lo n
theorem rn_op {cs : List Int} {k : Int} {lo n : Nat} (h : cs.getD (lo + n) 0 % 4 = k) : rn cs k lo (n + 1) = ((rn cs k lo n).1, (lo + n) :: (rn cs k lo n).2) := by
  rw [rn, if_pos h]
theorem rn_cl0 {cs : List Int} {k : Int} {lo n : Nat} (h : cs.getD (lo + n) 0 % 4 = k + 2) (e : (rn cs k lo n).2 = []) : rn cs k lo (n + 1) = ((rn cs k lo n).1 ++ [lo + n], []) := by
  rw [rn, if_neg (by omega), if_pos h, e]
theorem rn_cl1 {cs : List Int} {k : Int} {lo n x : Nat} {S : List Nat} (h : cs.getD (lo + n) 0 % 4 = k + 2) (e : (rn cs k lo n).2 = x :: S) : rn cs k lo (n + 1) = ((rn cs k lo n).1, S) := by
  rw [rn, if_neg (by omega), if_pos h, e]
theorem rn_no {cs : List Int} {k : Int} {lo n : Nat} (h1 : cs.getD (lo + n) 0 % 4 ≠ k) (h2 : cs.getD (lo + n) 0 % 4 ≠ k + 2) : rn cs k lo (n + 1) = rn cs k lo n := by
  rw [rn, if_neg h1, if_neg h2]
/-- two stretches make one -/
theorem rn_mon (cs : List Int) (k : Int) (lo a : Nat) : ∀ b, rn cs k lo (a + b) = ((rn cs k lo a).1 ++ (rn cs k (lo + a) b).1.drop (rn cs k lo a).2.length, (rn cs k (lo + a) b).2 ++ (rn cs k lo a).2.drop (rn cs k (lo + a) b).1.length)
  | 0 => by
    show rn cs k lo a = ((rn cs k lo a).1 ++ [].drop _, [] ++ (rn cs k lo a).2.drop 0)
    simp
  | b + 1 => by
    have ih := rn_mon cs k lo a b
    rw [← Nat.add_assoc]
    by_cases h1 : cs.getD (lo + (a + b)) 0 % 4 = k
    · rw [rn_op h1, rn_op (show cs.getD (lo + a + b) 0 % 4 = k by rw [Nat.add_assoc]; exact h1), ih]
      simp [Nat.add_assoc]
    · by_cases h2 : cs.getD (lo + (a + b)) 0 % 4 = k + 2
      · have h2' : cs.getD (lo + a + b) 0 % 4 = k + 2 := by rw [Nat.add_assoc]; exact h2
        cases e : (rn cs k (lo + a) b).2 with
        | cons x S =>
          have e2 : (rn cs k lo (a + b)).2 = x :: (S ++ (rn cs k lo a).2.drop (rn cs k (lo + a) b).1.length) := by rw [ih, e]; rfl
          rw [rn_cl1 h2 e2, rn_cl1 h2' e, ih]
        | nil =>
          have e2 : (rn cs k lo (a + b)).2 = (rn cs k lo a).2.drop (rn cs k (lo + a) b).1.length := by rw [ih, e]; rfl
          rw [rn_cl0 h2' e]
          cases e3 : (rn cs k lo a).2.drop (rn cs k (lo + a) b).1.length with
          | nil =>
            rw [rn_cl0 h2 (e2.trans e3), ih]
            have hle : (rn cs k lo a).2.length ≤ (rn cs k (lo + a) b).1.length := by simpa using e3
            rw [List.drop_append_of_le_length hle, List.drop_eq_nil_of_le (show (rn cs k lo a).2.length ≤ ((rn cs k (lo + a) b).1 ++ [lo + a + b]).length by rw [List.length_append]; omega)]
            simp [Nat.add_assoc]
          | cons y T =>
            rw [rn_cl1 h2 (e2.trans e3), ih]
            have hlt : (rn cs k (lo + a) b).1.length < (rn cs k lo a).2.length := by
              have := congrArg List.length e3
              rw [List.length_drop, List.length_cons] at this
              omega
            have e4 : (rn cs k lo a).2.drop ((rn cs k (lo + a) b).1 ++ [lo + a + b]).length = T := by
              rw [List.length_append, ← List.drop_drop, e3]; rfl
            rw [e4, List.drop_eq_nil_of_le (show (rn cs k (lo + a) b).1.length ≤ (rn cs k lo a).2.length by omega), List.drop_eq_nil_of_le (show ((rn cs k (lo + a) b).1 ++ [lo + a + b]).length ≤ (rn cs k lo a).2.length by rw [List.length_append]; show _ + 1 ≤ _; omega)]
            simp
      · rw [rn_no h1 h2, rn_no (show cs.getD (lo + a + b) 0 % 4 ≠ k by rw [Nat.add_assoc]; exact h1) (show cs.getD (lo + a + b) 0 % 4 ≠ k + 2 by rw [Nat.add_assoc]; exact h2), ih]
/-- the balance, by what a stretch leaves alone -/
theorem bal_rn {cs : List Int} {k : Int} (hk : k = 0 ∨ k = 1) {lo : Nat} {d : Int} (hd : 0 ≤ d) : ∀ n, lo + n ≤ cs.length → bal k (win cs lo (lo + n)) d = if (((rn cs k lo n).1.length : Nat) : Int) ≤ d then some (d - ((rn cs k lo n).1.length : Nat) + ((rn cs k lo n).2.length : Nat)) else none
  | 0, _ => by
    rw [Nat.add_zero, win_nil]
    show some d = if (((0 : Nat)) : Int) ≤ d then some (d - ((0 : Nat) : Int) + ((0 : Nat) : Int)) else none
    rw [if_pos (by omega)]
    congr 1; omega
  | n + 1, hn => by
    have ih := bal_rn (cs := cs) hk hd (lo := lo) n (by omega)
    rw [← Nat.add_assoc, win_snoc (Nat.le_add_right _ _) (by omega), bal_app, ih]
    have one : ∀ m, bal k [cs.getD (lo + n) 0] m = bstep k m (cs.getD (lo + n) 0) := fun m => by
      show (match bstep k m (cs.getD (lo + n) 0) with
        | none => none
        | some m' => some m') = _
      cases bstep k m (cs.getD (lo + n) 0) <;> rfl
    by_cases h1 : cs.getD (lo + n) 0 % 4 = k
    · rw [rn_op h1]
      by_cases hc : (((rn cs k lo n).1.length : Nat) : Int) ≤ d
      · rw [if_pos hc, if_pos hc]
        show bal k [cs.getD (lo + n) 0] _ = _
        rw [one, bstep_op h1 hk, List.length_cons]
        congr 1; push_cast; omega
      · rw [if_neg hc, if_neg hc]; rfl
    · by_cases h2 : cs.getD (lo + n) 0 % 4 = k + 2
      · cases e : (rn cs k lo n).2 with
        | nil =>
          rw [rn_cl0 h2 e]
          by_cases hc : (((rn cs k lo n).1.length : Nat) : Int) ≤ d
          · rw [if_pos hc]
            show bal k [cs.getD (lo + n) 0] _ = _
            rw [one, bstep_cl h2 hk, List.length_append]
            show (if d - _ + ((0 : Nat) : Int) - 1 < 0 then _ else _) = _
            by_cases hz : d - (((rn cs k lo n).1.length : Nat) : Int) + ((0 : Nat) : Int) - 1 < 0
            · rw [if_pos hz, if_neg (by rw [List.length_singleton]; push_cast; omega)]
            · rw [if_neg hz, if_pos (by rw [List.length_singleton]; push_cast; omega)]
              rw [List.length_singleton, List.length_nil]
              congr 1; push_cast; omega
          · have hn : ¬ ((((rn cs k lo n).1 ++ [lo + n]).length : Nat) : Int) ≤ d := by rw [List.length_append]; push_cast; omega
            rw [if_neg hc, if_neg hn]; rfl
        | cons x S =>
          rw [rn_cl1 h2 e]
          by_cases hc : (((rn cs k lo n).1.length : Nat) : Int) ≤ d
          · rw [if_pos hc, if_pos hc]
            show bal k [cs.getD (lo + n) 0] _ = _
            rw [one, bstep_cl h2 hk, List.length_cons, if_neg (by push_cast; omega)]
            congr 1; push_cast; omega
          · rw [if_neg hc, if_neg hc]; rfl
      · rw [rn_no h1 h2]
        by_cases hc : (((rn cs k lo n).1.length : Nat) : Int) ≤ d
        · rw [if_pos hc]
          show bal k [cs.getD (lo + n) 0] _ = _
          rw [one, bstep_no h1 h2 hk]
        · rw [if_neg hc]; rfl
end Mine
end
section
theorem Mine.walk_reset_Q8 : True := by
  w_top off
  trivial
open PySem PySem.W PyProof.Rows
set_option maxRecDepth 100000
set_option maxHeartbeats 2000000
namespace Mine
def clU (cs m : List Int) (k : Int) (lo hi l : Nat) : Bool := decide (cs.getD l 0 % 4 = k + 2) && loneQ m lo hi l
def opU (cs m : List Int) (k : Int) (lo hi f : Nat) : Bool := decide (cs.getD f 0 % 4 = k) && loneQ m lo hi f
theorem lone_iff {m : List Int} {lo hi p : Nat} : loneQ m lo hi p = true ↔ ¬ ((lo : Int) ≤ m.getD p 0 ∧ m.getD p 0 < (hi : Int)) := by
  unfold loneQ
  rw [Bool.not_eq_true', Bool.and_eq_false_iff, decide_eq_false_iff_not, decide_eq_false_iff_not]
  constructor
  · rintro (h | h) ⟨h1, h2⟩
    · exact h h1
    · exact h h2
  · intro h
    by_cases h1 : (lo : Int) ≤ m.getD p 0
    · exact .inr fun h2 => h ⟨h1, h2⟩
    · exact .inl h1
theorem clU_iff {cs m : List Int} {k : Int} {lo hi p : Nat} : clU cs m k lo hi p = true ↔ cs.getD p 0 % 4 = k + 2 ∧ ¬ ((lo : Int) ≤ m.getD p 0 ∧ m.getD p 0 < (hi : Int)) := by
  unfold clU; rw [Bool.and_eq_true, decide_eq_true_iff, lone_iff]
theorem opU_iff {cs m : List Int} {k : Int} {lo hi p : Nat} : opU cs m k lo hi p = true ↔ cs.getD p 0 % 4 = k ∧ ¬ ((lo : Int) ≤ m.getD p 0 ∧ m.getD p 0 < (hi : Int)) := by
  unfold opU; rw [Bool.and_eq_true, decide_eq_true_iff, lone_iff]
theorem Ms.op' {cs m : List Int} (M : Ms cs m) {k : Int} (hk : k = 0 ∨ k = 1) {f : Nat} (hf : f < 7) (h : cs.getD f 0 % 4 = k) : (∃ l, Mt cs k f l ∧ m.getD f 0 = (l : Int)) ∨ m.getD f 0 = -1 := by
  by_cases he : ∃ l, Mt cs k f l
  · obtain ⟨l, hl⟩ := he
    exact .inl ⟨l, hl, (M.mate k f l hk hl).1⟩
  · exact .inr (M.op k f hk hf h fun l hl => he ⟨l, hl⟩)
theorem Ms.cl' {cs m : List Int} (M : Ms cs m) {k : Int} (hk : k = 0 ∨ k = 1) {l : Nat} (hl : l < 7) (h : cs.getD l 0 % 4 = k + 2) : (∃ f, Mt cs k f l ∧ m.getD l 0 = (f : Int)) ∨ m.getD l 0 = -1 := by
  by_cases he : ∃ f, Mt cs k f l
  · obtain ⟨f, hf⟩ := he
    exact .inl ⟨f, hf, (M.mate k f l hk hf).2⟩
  · exact .inr (M.cl k l hk hl h fun f hf => he ⟨f, hf⟩)
theorem eq_of_iff {a b : Bool} (h : a = true ↔ b = true) : a = b := by
  cases a <;> cases b <;> simp_all
structure RnOk (cs m : List Int) (k : Int) (lo n : Nat) : Prop where
  c : (rn cs k lo n).1 = (List.range' lo n).filter (clU cs m k lo (lo + n))
  o : (rn cs k lo n).2.reverse = (List.range' lo n).filter (opU cs m k lo (lo + n))
  s : ∀ (i : Nat) (f : Nat), (rn cs k lo n).2[i]? = some f → lo ≤ f ∧ f < lo + n ∧ cs.getD f 0 % 4 = k ∧ Bw cs k f (lo + n) = some ((i : Int) + 1) ∧ ∀ h, f < h → h ≤ lo + n → ∃ d, Bw cs k f h = some d ∧ 0 < d
theorem rn_ok {cs m : List Int} (h7 : cs.length = 7) (M : Ms cs m) {k : Int} (hk : k = 0 ∨ k = 1) (lo : Nat) : ∀ n, lo + n ≤ 7 → RnOk cs m k lo n
  | 0, _ => ⟨rfl, rfl, fun i f h => by simp [rn] at h⟩
  | n + 1, hn => by
    have ih := rn_ok h7 M hk lo n (by omega)
    have hp7 : lo + n < 7 := by omega
    have hr : List.range' lo (n + 1) = List.range' lo n ++ [lo + n] := by rw [List.range'_concat, Nat.one_mul]
    have hmem : ∀ {f}, f ∈ List.range' lo n ↔ lo ≤ f ∧ f < lo + n := fun {f} => by rw [List.mem_range'_1]
    have hcl : (List.range' lo n).filter (clU cs m k lo (lo + (n + 1))) = (rn cs k lo n).1 := by
      rw [ih.c]
      refine List.filter_congr fun l hl => eq_of_iff ?_
      obtain ⟨l1, l2⟩ := hmem.mp hl
      rw [clU_iff, clU_iff]
      refine and_congr_right fun hc => not_congr ?_
      rcases M.cl' hk (by omega) hc with ⟨f, hf, e⟩ | e
      · have := hf.lt; rw [e]; omega
      · rw [e]; omega
    have hop : (∀ f, lo ≤ f → ¬ Mt cs k f (lo + n)) → (List.range' lo n).filter (opU cs m k lo (lo + (n + 1))) = (rn cs k lo n).2.reverse := by
      intro hno
      rw [ih.o]
      refine List.filter_congr fun f hf => eq_of_iff ?_
      obtain ⟨l1, l2⟩ := hmem.mp hf
      rw [opU_iff, opU_iff]
      refine and_congr_right fun hc => not_congr ?_
      rcases M.op' hk (by omega) hc with ⟨l, hl, e⟩ | e
      · have : l ≠ lo + n := fun z => hno f l1 (z ▸ hl)
        rw [e]; omega
      · rw [e]; omega
    have one : ∀ (q : Nat → Bool), (List.range' lo (n + 1)).filter q = (List.range' lo n).filter q ++ (if q (lo + n) = true then [lo + n] else []) := fun q => by
      rw [hr, List.filter_append, List.filter_cons, List.filter_nil]
    by_cases h1 : cs.getD (lo + n) 0 % 4 = k
    · have hno : ∀ f, lo ≤ f → ¬ Mt cs k f (lo + n) := fun f _ z => by have := z.cl; omega
      refine ⟨?_, ?_, ?_⟩
      · rw [rn_op h1, one, hcl, if_neg (fun z => by rw [clU_iff] at z; omega), List.append_nil]
      · rw [rn_op h1, one, hop hno, if_pos, List.reverse_cons]
        rw [opU_iff]
        refine ⟨h1, ?_⟩
        rcases M.op' hk hp7 h1 with ⟨l, hl, e⟩ | e
        · have := hl.lt; rw [e]; omega
        · rw [e]; omega
      · intro i f hf
        rw [rn_op h1] at hf
        cases i with
        | zero =>
          have e : lo + n = f := by simpa using hf
          subst e
          refine ⟨by omega, by omega, h1, ?_, fun h g1 g2 => ?_⟩
          · rw [← Nat.add_assoc, Bw_succ (Nat.le_refl _) (by omega), Bw_self]
            exact bstep_op h1 hk
          · have : h = lo + n + 1 := by omega
            subst this
            exact ⟨1, by rw [Bw_succ (Nat.le_refl _) (by omega), Bw_self]; exact bstep_op h1 hk, by decide⟩
        | succ i =>
          obtain ⟨s1, s2, s3, s4, s5⟩ := ih.s i f (by simpa using hf)
          have hB : Bw cs k f (lo + (n + 1)) = some (((i + 1 : Nat) : Int) + 1) := by
            rw [← Nat.add_assoc, Bw_succ (by omega) (by omega), s4]
            show bstep k _ _ = _
            rw [bstep_op h1 hk]; congr 1
          refine ⟨s1, by omega, s3, hB, fun h g1 g2 => ?_⟩
          by_cases e : h = lo + (n + 1)
          · rw [e]; exact ⟨_, hB, by omega⟩
          · exact s5 h g1 (by omega)
    · by_cases h2 : cs.getD (lo + n) 0 % 4 = k + 2
      · have pno : ¬ opU cs m k lo (lo + (n + 1)) (lo + n) = true := fun z => by rw [opU_iff] at z; exact h1 z.1
        cases e : (rn cs k lo n).2 with
        | nil =>
          have hF : (List.range' lo n).filter (opU cs m k lo (lo + n)) = [] := by rw [← ih.o, e]; rfl
          refine ⟨?_, ?_, ?_⟩
          · rw [rn_cl0 h2 e, one, hcl, if_pos]
            rw [clU_iff]
            refine ⟨h2, fun z => ?_⟩
            rcases M.cl' hk hp7 h2 with ⟨f, hf, em⟩ | em
            · rw [em] at z
              have hlt := hf.lt
              have hfm : f ∈ (List.range' lo n).filter (opU cs m k lo (lo + n)) := List.mem_filter.mpr ⟨hmem.mpr ⟨by omega, hlt⟩, by
                rw [opU_iff]
                refine ⟨hf.op, ?_⟩
                rw [(M.mate k f _ hk hf).1]; omega⟩
              rw [hF] at hfm
              exact absurd hfm List.not_mem_nil
            · rw [em] at z; omega
          · rw [rn_cl0 h2 e, one, if_neg pno, List.append_nil]
            refine (List.filter_eq_nil_iff.mpr fun f hf z => ?_).symm
            have := List.filter_eq_nil_iff.mp hF f hf
            refine this ?_
            rw [opU_iff] at z ⊢
            exact ⟨z.1, fun y => z.2 ⟨y.1, by have := y.2; push_cast at this ⊢; omega⟩⟩
          · intro i f hf
            rw [rn_cl0 h2 e] at hf
            simp at hf
        | cons x S =>
          obtain ⟨s1, s2, s3, s4, s5⟩ := ih.s 0 x (by rw [e]; rfl)
          have hM : Mt cs k x (lo + n) := by
            refine ⟨s2, hp7, s3, h2, ?_, s5⟩
            rw [Bw_succ (by omega) (by omega), s4]
            show bstep k _ _ = _
            rw [bstep_cl h2 hk, if_neg (by decide)]; rfl
          obtain ⟨m1, m2⟩ := M.mate k x _ hk hM
          have hR : S.reverse ++ [x] = (List.range' lo n).filter (opU cs m k lo (lo + n)) := by rw [← ih.o, e, List.reverse_cons]
          have hnd : (S.reverse ++ [x]).Nodup := by rw [hR]; exact (List.nodup_range' ..).filter _
          have hx : x ∉ S := fun hm => by
            have := (List.nodup_append.mp hnd).2.2 x (List.mem_reverse.mpr hm) x (.head _)
            exact this rfl
          refine ⟨?_, ?_, ?_⟩
          · rw [rn_cl1 h2 e, one, hcl, if_neg, List.append_nil]
            rw [clU_iff, m2]
            exact fun z => z.2 ⟨by omega, by omega⟩
          · rw [rn_cl1 h2 e, one, if_neg pno, List.append_nil]
            have e1 : (List.range' lo n).filter (opU cs m k lo (lo + (n + 1))) = ((List.range' lo n).filter (opU cs m k lo (lo + n))).filter (fun f => decide (f ≠ x)) := by
              rw [List.filter_filter]
              refine List.filter_congr fun f hf => eq_of_iff ?_
              obtain ⟨l1, l2⟩ := hmem.mp hf
              rw [Bool.and_eq_true, decide_eq_true_iff, opU_iff, opU_iff]
              constructor
              · rintro ⟨a, b⟩
                refine ⟨fun ex => b ?_, a, fun z => b ⟨z.1, by have := z.2; push_cast at this ⊢; omega⟩⟩
                rw [ex, m1]; constructor <;> (push_cast; omega)
              · rintro ⟨a, b, c⟩
                refine ⟨b, fun z => ?_⟩
                rcases M.op' hk (by omega) b with ⟨l, hl, em⟩ | em
                · have hne : l ≠ lo + n := fun ez => a ((ez ▸ hl).inj hM)
                  rw [em] at z c
                  exact c ⟨z.1, by have := z.2; push_cast at this ⊢; omega⟩
                · rw [em] at z; omega
            rw [e1, ← hR, List.filter_append]
            have e2 : S.reverse.filter (fun f => decide (f ≠ x)) = S.reverse := List.filter_eq_self.mpr fun f hf => decide_eq_true fun ex => hx (ex ▸ List.mem_reverse.mp hf)
            rw [e2]
            simp
          · intro i f hf
            rw [rn_cl1 h2 e] at hf
            obtain ⟨t1, t2, t3, t4, t5⟩ := ih.s (i + 1) f (by rw [e]; simpa using hf)
            have hB : Bw cs k f (lo + (n + 1)) = some ((i : Int) + 1) := by
              rw [← Nat.add_assoc, Bw_succ (by omega) (by omega), t4]
              show bstep k _ _ = _
              rw [bstep_cl h2 hk, if_neg (by push_cast; omega)]; congr 1; push_cast; omega
            refine ⟨t1, by omega, t3, hB, fun h g1 g2 => ?_⟩
            by_cases e' : h = lo + (n + 1)
            · rw [e']; exact ⟨_, hB, by omega⟩
            · exact t5 h g1 (by omega)
      · have hno : ∀ f, lo ≤ f → ¬ Mt cs k f (lo + n) := fun f _ z => h2 z.cl
        refine ⟨?_, ?_, ?_⟩
        · rw [rn_no h1 h2, one, hcl, if_neg (fun z => by rw [clU_iff] at z; exact h2 z.1), List.append_nil]
        · rw [rn_no h1 h2, one, hop hno, if_neg (fun z => by rw [opU_iff] at z; exact h1 z.1), List.append_nil]
        · intro i f hf
          rw [rn_no h1 h2] at hf
          obtain ⟨s1, s2, s3, s4, s5⟩ := ih.s i f hf
          have hB : Bw cs k f (lo + (n + 1)) = some ((i : Int) + 1) := by
            rw [← Nat.add_assoc, Bw_succ (by omega) (by omega), s4]
            exact bstep_no h1 h2 hk
          refine ⟨s1, by omega, s3, hB, fun h g1 g2 => ?_⟩
          by_cases e : h = lo + (n + 1)
          · rw [e]; exact ⟨_, hB, by omega⟩
          · exact s5 h g1 (by omega)
end Mine
end
section
theorem Mine.walk_reset_Q9 : True := by
  w_top off
  trivial
open PySem PySem.W PyProof.Rows
set_option maxRecDepth 100000
set_option maxHeartbeats 2000000
namespace Mine
theorem win_all {cs : List Int} (h7 : cs.length = 7) : win cs 0 (0 + 7) = cs := by
  unfold win; rw [List.drop_zero, List.take_of_length_le (by omega)]
theorem cnt_op {cs m : List Int} (M : Ms cs m) {k : Int} (hk : k = 0 ∨ k = 1) (h7 : cs.length = 7) : cnt cs m k = (rn cs k 0 7).2.length := by
  have h := (rn_ok h7 M hk 0 7 (by decide)).o
  rw [← List.length_reverse, h]
  unfold cnt
  rw [List.filter_map, List.length_map, List.range_eq_range']
  congr 1
  refine List.filter_congr fun p hp => eq_of_iff ?_
  have hp7 : p < 7 := by rw [List.mem_range'_1] at hp; omega
  rw [opU_iff]
  show (cs.getD (0 + (p : Int)).toNat 0 % 4 == k && decide (m.getD (0 + (p : Int)).toNat 0 < 0)) = true ↔ _
  rw [show (0 + (p : Int)).toNat = p by omega, Bool.and_eq_true, beq_iff_eq, decide_eq_true_iff]
  refine and_congr_right fun hc => ?_
  rcases M.op' hk hp7 hc with ⟨l, hl, e⟩ | e
  · have := hl.l7; rw [e]; omega
  · rw [e]; omega
theorem cnt_cl {cs m : List Int} (M : Ms cs m) {k : Int} (hk : k = 0 ∨ k = 1) (h7 : cs.length = 7) : cnt cs m (k + 2) = (rn cs k 0 7).1.length := by
  have h := (rn_ok h7 M hk 0 7 (by decide)).c
  rw [h]
  unfold cnt
  rw [List.filter_map, List.length_map, List.range_eq_range']
  congr 1
  refine List.filter_congr fun p hp => eq_of_iff ?_
  have hp7 : p < 7 := by rw [List.mem_range'_1] at hp; omega
  rw [clU_iff]
  show (cs.getD (0 + (p : Int)).toNat 0 % 4 == k + 2 && decide (m.getD (0 + (p : Int)).toNat 0 < 0)) = true ↔ _
  rw [show (0 + (p : Int)).toNat = p by omega, Bool.and_eq_true, beq_iff_eq, decide_eq_true_iff]
  refine and_congr_right fun hc => ?_
  rcases M.cl' hk hp7 hc with ⟨f, hf, e⟩ | e
  · have := hf.lt; rw [e]; omega
  · rw [e]; omega
theorem taken_ok {cs : List Int} (h7 : cs.length = 7) (hr : ∀ n ∈ cs, 0 ≤ n ∧ n < 16) (j : Nat) (hj : j < 2) :
    let a : Int := cnt cs (msOf cs) (j + 2)
    let b : Int := cnt cs (msOf cs) j
    (OkT (tA (txt cs j) a b) ∧ check (tA (txt cs j) a b) = true) ∧ (OkT (tB (txt cs j) a b) ∧ check (tB (txt cs j) a b) = false) ∧
    (a > 0 → (OkT (tC (txt cs j) a b) ∧ check (tC (txt cs j) a b) = false) ∧ OkT (tD (txt cs j) a b) ∧ check (tD (txt cs j) a b) = false) ∧ (txt cs j).length ≤ 100 := by
  have M := ms_ok h7 hr
  have hk : (j : Int) = 0 ∨ (j : Int) = 1 := by omega
  refine taken_of h7 hr hj (cnt_le _ _ _) (cnt_le _ _ _) ?_
  rw [cnt_op M hk h7, cnt_cl M hk h7]
  have key : ∀ d : Int, 0 ≤ d → _ := fun d hd => bal_rn (cs := cs) hk (lo := 0) hd 7 (by omega)
  rw [win_all h7] at key
  refine ⟨?_, ?_, fun h0 => ?_⟩
  · rw [key _ (by omega), if_pos (by omega)]; congr 1; omega
  · rw [key _ (by omega), if_pos (by omega)]; congr 1; omega
  · rw [key _ (by omega), if_neg (by omega)]
section
variable {α : Type}
def skip (κ : α → Int) : (Int → Nat) → List α → List α
  | _, [] => []
  | c, x :: r => if 0 < c (κ x) then skip κ (fun y => if y = κ x then c y - 1 else c y) r else x :: skip κ c r
def cntK (κ : α → Int) (l : List α) (y : Int) : Nat := l.countP fun x => decide (κ x = y)
theorem skip_zero (κ : α → Int) : ∀ (l : List α) (c : Int → Nat), (∀ y, c y = 0) → skip κ c l = l
  | [], _, _ => rfl
  | x :: r, c, h => by rw [skip, if_neg (by rw [h]; exact Nat.lt_irrefl 0), skip_zero κ r c h]
theorem skip_none (κ : α → Int) (k : Int) : ∀ (l : List α) (c : Int → Nat), (∀ b ∈ l, κ b ≠ k) → skip κ (fun y => if y = k then c y + 1 else c y) l = skip κ c l
  | [], _, _ => rfl
  | x :: r, c, h => by
    have hx := h x (.head _)
    rw [skip, skip, if_neg hx]
    by_cases h0 : 0 < c (κ x)
    · rw [if_pos h0, if_pos h0]
      refine Eq.trans ?_ (skip_none κ k r (fun y => if y = κ x then c y - 1 else c y) fun b hb => h b (.tail _ hb))
      congr 1
      funext y
      by_cases e1 : y = κ x
      · rw [if_pos e1, if_pos e1, e1, if_neg hx, if_neg hx]
      · rw [if_neg e1, if_neg e1]
    · rw [if_neg h0, if_neg h0, skip_none κ k r c fun b hb => h b (.tail _ hb)]
theorem skip_erase (κ : α → Int) (k : Int) (y : α) (l₂ : List α) (hy : κ y = k) : ∀ (l₁ : List α) (c : Int → Nat), (∀ b ∈ l₁, κ b ≠ k) → skip κ (fun z => if z = k then c z + 1 else c z) (l₁ ++ y :: l₂) = skip κ c (l₁ ++ l₂)
  | [], c, _ => by
    show skip κ _ (y :: l₂) = skip κ c l₂
    rw [skip, if_pos (by rw [if_pos hy]; exact Nat.succ_pos _)]
    congr 1
    funext z
    by_cases e : z = k
    · rw [if_pos (e.trans hy.symm), if_pos e]; rfl
    · rw [if_neg (fun h => e (h.trans hy)), if_neg e]
  | b :: l₁, c, h => by
    have hb := h b (.head _)
    show skip κ _ (b :: (l₁ ++ y :: l₂)) = skip κ c (b :: (l₁ ++ l₂))
    rw [skip, skip, if_neg hb]
    by_cases h0 : 0 < c (κ b)
    · rw [if_pos h0, if_pos h0, ← skip_erase κ k y l₂ hy l₁ _ fun b hb => h b (.tail _ hb)]
      congr 1
      funext z
      by_cases e1 : z = κ b
      · rw [if_pos e1, e1, if_neg hb, if_neg hb, if_pos rfl]
      · rw [if_neg e1, if_neg e1]
    · rw [if_neg h0, if_neg h0, skip_erase κ k y l₂ hy l₁ c fun b hb => h b (.tail _ hb)]
theorem cntK_cons (κ : α → Int) (x : α) (r : List α) : cntK κ (x :: r) = fun z => if z = κ x then cntK κ r z + 1 else cntK κ r z := by
  funext z
  unfold cntK
  rw [List.countP_cons]
  by_cases e : z = κ x
  · rw [if_pos e, if_pos (decide_eq_true e.symm)]
  · rw [if_neg e, if_neg (fun h => e (of_decide_eq_true h).symm)]; rfl
theorem cntK_pos {κ : α → Int} {l : List α} {k : Int} : 0 < cntK κ l k ↔ ∃ b ∈ l, κ b = k := by
  unfold cntK
  rw [List.countP_pos_iff]
  constructor
  · rintro ⟨b, h1, h2⟩; exact ⟨b, h1, of_decide_eq_true h2⟩
  · rintro ⟨b, h1, h2⟩; exact ⟨b, h1, decide_eq_true h2⟩
theorem skip_filter {κ : α → Int} {q : α → Bool} : ∀ (l : List α) (c : Int → Nat), l.Nodup → (∀ y, (l.filter fun x => decide (κ x = y)).filter q = (l.filter fun x => decide (κ x = y)).drop (c y)) → l.filter q = skip κ c l
  | [], _, _, _ => rfl
  | x :: r, c, hn, H => by
    obtain ⟨hx, hn'⟩ := List.nodup_cons.mp hn
    have h0 := H (κ x)
    rw [List.filter_cons_of_pos (by simp)] at h0
    have hne : ∀ y, y ≠ κ x → (x :: r).filter (fun x => decide (κ x = y)) = r.filter (fun x => decide (κ x = y)) := fun y hy => List.filter_cons_of_neg (by simpa using fun e => hy e.symm)
    rw [skip]
    by_cases hc : 0 < c (κ x)
    · rw [if_pos hc]
      obtain ⟨d, hd⟩ : ∃ d, c (κ x) = d + 1 := ⟨c (κ x) - 1, by omega⟩
      rw [hd, List.drop_succ_cons] at h0
      have hq : ¬ q x = true := fun hq => by
        rw [List.filter_cons_of_pos hq] at h0
        have : x ∈ (r.filter fun z => decide (κ z = κ x)).drop d := by rw [← h0]; exact .head _
        exact hx (List.mem_filter.mp (List.mem_of_mem_drop this)).1
      rw [List.filter_cons_of_neg hq] at h0 ⊢
      refine skip_filter r _ hn' fun y => ?_
      by_cases hy : y = κ x
      · rw [if_pos hy, hy, hd]; exact h0
      · rw [if_neg hy]
        have := H y
        rw [hne y hy] at this
        exact this
    · rw [if_neg hc]
      have hc0 : c (κ x) = 0 := by omega
      rw [hc0, List.drop_zero] at h0
      have hall := List.filter_eq_self.mp h0
      rw [List.filter_cons_of_pos (hall x (.head _))]
      congr 1
      refine skip_filter r c hn' fun y => ?_
      by_cases hy : y = κ x
      · rw [hy, hc0, List.drop_zero]
        exact List.filter_eq_self.mpr fun a ha => hall a (.tail _ ha)
      · have := H y
        rw [hne y hy] at this
        exact this
end
theorem skip_map {α β : Type} {κ : β → Int} {κ' : α → Int} {t : α → β} : ∀ (l : List α) (c : Int → Nat), (∀ x ∈ l, κ (t x) = κ' x) → skip κ c (l.map t) = (skip κ' c l).map t
  | [], _, _ => rfl
  | x :: r, c, h => by
    rw [List.map_cons, skip, skip, h x (.head _)]
    by_cases h0 : 0 < c (κ' x)
    · rw [if_pos h0, if_pos h0, skip_map r _ fun z hz => h z (.tail _ hz)]
    · rw [if_neg h0, if_neg h0, skip_map r c fun z hz => h z (.tail _ hz), List.map_cons]
theorem cntK_map {α β : Type} {κ : β → Int} {κ' : α → Int} {t : α → β} (l : List α) (h : ∀ x ∈ l, κ (t x) = κ' x) : cntK κ (l.map t) = cntK κ' l := by
  funext y
  unfold cntK
  rw [List.countP_map]
  exact List.countP_congr fun x hx => by simp [h x hx]
theorem diff_skip (κ : Addr → Int) : ∀ (es as ms : List Addr), diffF κ es as ms = (ms ++ skip κ (cntK κ as) es, skip κ (cntK κ es) as)
  | [], as, ms => by
    rw [diffF, skip_zero κ as (cntK κ []) fun y => rfl]
    show (ms, as) = (ms ++ [], as)
    rw [List.append_nil]
  | x :: r, as, ms => by
    by_cases hany : as.any (fun y => decide (κ y = κ x)) = true
    · rw [diffF, if_pos hany]
      obtain ⟨y0, hy0, hy1⟩ := List.any_eq_true.mp hany
      obtain ⟨y, l₁, l₂, hl1, hy, hl2, hl3⟩ := List.exists_of_eraseP (p := fun y => decide (κ y = κ x)) hy0 hy1
      have hn : ∀ b ∈ l₁, κ b ≠ κ x := fun b hb e => hl1 b hb (decide_eq_true e)
      have hye : κ y = κ x := of_decide_eq_true hy
      rw [hl3, diff_skip κ r (l₁ ++ l₂) ms, skip, if_pos (cntK_pos.mpr ⟨y0, hy0, of_decide_eq_true hy1⟩), cntK_cons, hl2, skip_erase κ (κ x) y l₂ hye l₁ _ hn]
      congr 3
      funext z
      unfold cntK
      rw [List.countP_append, List.countP_append, List.countP_cons]
      by_cases e : z = κ x
      · rw [if_pos e, if_pos (decide_eq_true (hye.trans e.symm))]; omega
      · rw [if_neg e, if_neg (fun h => e ((of_decide_eq_true h).symm.trans hye))]; rfl
    · rw [diffF, if_neg hany]
      have hno : ∀ b ∈ as, κ b ≠ κ x := fun b hb e => hany (List.any_eq_true.mpr ⟨b, hb, decide_eq_true e⟩)
      have h0 : ¬ 0 < cntK κ as (κ x) := fun h => by
        obtain ⟨b, hb, e⟩ := cntK_pos.mp h
        exact hno b hb e
      rw [diff_skip κ r as (ms ++ [x]), skip, if_neg h0, cntK_cons, skip_none κ (κ x) as _ hno, List.append_assoc]
      rfl
end Mine
end
section
theorem Mine.walk_reset_Q10 : True := by
  w_top off
  trivial
open PySem PySem.W PyProof.Rows
set_option maxRecDepth 100000
set_option maxHeartbeats 2000000
namespace Mine
def kq (cs : List Int) (p : Nat) : Int := cs.getD p 0 % 2
def clQ (cs : List Int) (p : Nat) : Bool := decide (cs.getD p 0 % 4 > 1)
def opQ (cs : List Int) (p : Nat) : Bool := decide (cs.getD p 0 % 4 < 2)
theorem kq2 (cs : List Int) (p : Nat) : kq cs p = 0 ∨ kq cs p = 1 := by unfold kq; omega
theorem filt_cl {cs m : List Int} {k : Int} (hk : k = 0 ∨ k = 1) (R : List Nat) (lo hi : Nat) : ((R.filter (loneQ m lo hi)).filter (clQ cs)).filter (fun p => decide (kq cs p = k)) = R.filter (clU cs m k lo hi) := by
  rw [List.filter_filter, List.filter_filter]
  refine List.filter_congr fun p _ => eq_of_iff ?_
  unfold clU clQ kq
  rw [Bool.and_eq_true, Bool.and_eq_true, Bool.and_eq_true, decide_eq_true_iff, decide_eq_true_iff, decide_eq_true_iff]
  constructor
  · rintro ⟨⟨a, b⟩, c⟩; exact ⟨by omega, c⟩
  · rintro ⟨a, c⟩; exact ⟨⟨by omega, by omega⟩, c⟩
theorem filt_op {cs m : List Int} {k : Int} (hk : k = 0 ∨ k = 1) (R : List Nat) (lo hi : Nat) : ((R.filter (loneQ m lo hi)).filter (opQ cs)).filter (fun p => decide (kq cs p = k)) = R.filter (opU cs m k lo hi) := by
  rw [List.filter_filter, List.filter_filter]
  refine List.filter_congr fun p _ => eq_of_iff ?_
  unfold opU opQ kq
  rw [Bool.and_eq_true, Bool.and_eq_true, Bool.and_eq_true, decide_eq_true_iff, decide_eq_true_iff, decide_eq_true_iff]
  constructor
  · rintro ⟨⟨a, b⟩, c⟩; exact ⟨by omega, c⟩
  · rintro ⟨a, c⟩; exact ⟨⟨by omega, by omega⟩, c⟩
theorem filt_no {cs : List Int} {y : Int} (hy : ¬ (y = 0 ∨ y = 1)) (L : List Nat) : L.filter (fun p => decide (kq cs p = y)) = [] :=
  List.filter_eq_nil_iff.mpr fun p _ h => hy (by have := of_decide_eq_true h; have := kq2 cs p; omega)
theorem cntK_len (cs : List Int) (L : List Nat) (y : Int) : cntK (kq cs) L y = (L.filter fun p => decide (kq cs p = y)).length := by
  unfold cntK; rw [List.countP_eq_length_filter]
theorem merge_places {cs m : List Int} (h7 : cs.length = 7) (M : Ms cs m) {lo a b : Nat} (h : lo + a + b ≤ 7) :
    ((List.range' lo (a + b)).filter (loneQ m lo (lo + a + b))).filter (clQ cs) = ((List.range' lo a).filter (loneQ m lo (lo + a))).filter (clQ cs) ++
      skip (kq cs) (cntK (kq cs) (((List.range' lo a).filter (loneQ m lo (lo + a))).filter (opQ cs)).reverse) (((List.range' (lo + a) b).filter (loneQ m (lo + a) (lo + a + b))).filter (clQ cs)) ∧
    ((List.range' lo (a + b)).filter (loneQ m lo (lo + a + b))).filter (opQ cs) =
      (skip (kq cs) (cntK (kq cs) (((List.range' (lo + a) b).filter (loneQ m (lo + a) (lo + a + b))).filter (clQ cs))) (((List.range' lo a).filter (loneQ m lo (lo + a))).filter (opQ cs)).reverse).reverse ++
      ((List.range' (lo + a) b).filter (loneQ m (lo + a) (lo + a + b))).filter (opQ cs) := by
  have hR : List.range' lo (a + b) = List.range' lo a ++ List.range' (lo + a) b := (List.range'_append_1 ..).symm
  -- the left stretch's closing ones, the right one's opening ones
  have hcl : ∀ k, k = 0 ∨ k = 1 → ∀ p ∈ List.range' lo a, cs.getD p 0 % 4 = k + 2 → (loneQ m lo (lo + a + b) p = true ↔ loneQ m lo (lo + a) p = true) := by
    intro k hk p hp hc
    rw [List.mem_range'_1] at hp
    rw [lone_iff, lone_iff]
    refine not_congr ?_
    rcases M.cl' hk (by omega) hc with ⟨f, hf, e⟩ | e
    · have := hf.lt; rw [e]; omega
    · rw [e]; omega
  have hop : ∀ k, k = 0 ∨ k = 1 → ∀ p ∈ List.range' (lo + a) b, cs.getD p 0 % 4 = k → (loneQ m lo (lo + a + b) p = true ↔ loneQ m (lo + a) (lo + a + b) p = true) := by
    intro k hk p hp hc
    rw [List.mem_range'_1] at hp
    rw [lone_iff, lone_iff]
    refine not_congr ?_
    rcases M.op' hk (by omega) hc with ⟨l, hl, e⟩ | e
    · have := hl.lt; rw [e]; omega
    · rw [e]; omega
  have nd1 : (List.range' lo a).Nodup := List.nodup_range' ..
  have nd2 : (List.range' (lo + a) b).Nodup := List.nodup_range' ..
  have r1 : ∀ k, k = 0 ∨ k = 1 → RnOk cs m k lo a := fun k hk => rn_ok h7 M hk lo a (by omega)
  have r2 : ∀ k, k = 0 ∨ k = 1 → RnOk cs m k (lo + a) b := fun k hk => rn_ok h7 M hk (lo + a) b h
  have r3 : ∀ k, k = 0 ∨ k = 1 → RnOk cs m k lo (a + b) := fun k hk => rn_ok h7 M hk lo (a + b) (by omega)
  have ass : lo + (a + b) = lo + a + b := (Nat.add_assoc ..).symm
  constructor
  · rw [hR, List.filter_append, List.filter_append]
    congr 1
    · rw [List.filter_filter, List.filter_filter]
      refine List.filter_congr fun p hp => eq_of_iff ?_
      rw [Bool.and_eq_true, Bool.and_eq_true]
      refine and_congr_right fun hc => ?_
      have hc' := of_decide_eq_true hc
      rcases (show cs.getD p 0 % 4 = 0 + 2 ∨ cs.getD p 0 % 4 = 1 + 2 by omega) with e | e
      · exact hcl 0 (.inl rfl) p hp e
      · exact hcl 1 (.inr rfl) p hp e
    · have e1 : ((List.range' (lo + a) b).filter (loneQ m lo (lo + a + b))).filter (clQ cs) = (((List.range' (lo + a) b).filter (loneQ m (lo + a) (lo + a + b))).filter (clQ cs)).filter (loneQ m lo (lo + a + b)) := by
        rw [List.filter_filter, List.filter_filter, List.filter_filter]
        refine List.filter_congr fun p _ => eq_of_iff ?_
        rw [Bool.and_eq_true, Bool.and_eq_true, Bool.and_eq_true]
        constructor
        · rintro ⟨u, v⟩
          refine ⟨⟨v, u⟩, ?_⟩
          rw [lone_iff] at v ⊢
          exact fun z => v ⟨by have := z.1; push_cast at this ⊢; omega, z.2⟩
        · rintro ⟨⟨v, u⟩, _⟩; exact ⟨u, v⟩
      rw [e1]
      refine skip_filter _ _ ((nd2.filter _).filter _) fun y => ?_
      by_cases hy : y = 0 ∨ y = 1
      · rw [filt_cl hy, cntK_len, List.filter_reverse, List.length_reverse, filt_op hy, ← (r1 y hy).o, List.length_reverse, ← (r2 y hy).c]
        have h3 := (r3 y hy).c
        rw [rn_mon, hR, List.filter_append, ass] at h3
        have h4 : (List.range' lo a).filter (clU cs m y lo (lo + a + b)) = (rn cs y lo a).1 := by
          rw [(r1 y hy).c]
          refine List.filter_congr fun p hp => eq_of_iff ?_
          unfold clU
          rw [Bool.and_eq_true, Bool.and_eq_true]
          exact and_congr_right fun hc => hcl y hy p hp (of_decide_eq_true hc)
        rw [h4] at h3
        have h5 := List.append_cancel_left h3
        rw [h5, (r2 y hy).c, List.filter_filter]
        refine List.filter_congr fun p _ => eq_of_iff ?_
        unfold clU
        rw [Bool.and_eq_true, Bool.and_eq_true, Bool.and_eq_true]
        constructor
        · rintro ⟨v, u, _⟩; exact ⟨u, v⟩
        · rintro ⟨u, v⟩
          refine ⟨v, u, ?_⟩
          rw [lone_iff] at v ⊢
          exact fun z => v ⟨by have := z.1; push_cast at this ⊢; omega, z.2⟩
      · rw [filt_no hy]; simp
  · rw [hR, List.filter_append, List.filter_append]
    congr 1
    · have e1 : ((List.range' lo a).filter (loneQ m lo (lo + a + b))).filter (opQ cs) = (((List.range' lo a).filter (loneQ m lo (lo + a))).filter (opQ cs)).filter (loneQ m lo (lo + a + b)) := by
        rw [List.filter_filter, List.filter_filter, List.filter_filter]
        refine List.filter_congr fun p _ => eq_of_iff ?_
        rw [Bool.and_eq_true, Bool.and_eq_true, Bool.and_eq_true]
        constructor
        · rintro ⟨u, v⟩
          refine ⟨⟨v, u⟩, ?_⟩
          rw [lone_iff] at v ⊢
          exact fun z => v ⟨z.1, by have := z.2; push_cast at this ⊢; omega⟩
        · rintro ⟨⟨v, u⟩, _⟩; exact ⟨u, v⟩
      rw [e1, ← List.reverse_reverse (List.filter (loneQ m lo (lo + a + b)) _), ← List.filter_reverse]
      congr 1
      refine skip_filter _ _ ((List.reverse_perm _).nodup_iff.mpr ((nd1.filter _).filter _)) fun y => ?_
      by_cases hy : y = 0 ∨ y = 1
      · rw [List.filter_reverse, filt_op hy, ← (r1 y hy).o, List.reverse_reverse, cntK_len, filt_cl hy, ← (r2 y hy).c]
        have h3 := (r3 y hy).o
        rw [rn_mon, hR, List.filter_append, ass, List.reverse_append] at h3
        have h4 : (List.range' (lo + a) b).filter (opU cs m y lo (lo + a + b)) = (rn cs y (lo + a) b).2.reverse := by
          rw [(r2 y hy).o]
          refine List.filter_congr fun p hp => eq_of_iff ?_
          unfold opU
          rw [Bool.and_eq_true, Bool.and_eq_true]
          exact and_congr_right fun hc => hop y hy p hp (of_decide_eq_true hc)
        rw [h4] at h3
        have h5 := List.append_cancel_right h3
        have h6 : (List.range' lo a).filter (opU cs m y lo (lo + a + b)) = ((rn cs y lo a).2.reverse).filter (loneQ m lo (lo + a + b)) := by
          rw [(r1 y hy).o, List.filter_filter]
          refine List.filter_congr fun p _ => eq_of_iff ?_
          unfold opU
          rw [Bool.and_eq_true, Bool.and_eq_true, Bool.and_eq_true]
          constructor
          · rintro ⟨u, v⟩
            refine ⟨v, u, ?_⟩
            rw [lone_iff] at v ⊢
            exact fun z => v ⟨z.1, by have := z.2; push_cast at this ⊢; omega⟩
          · rintro ⟨v, u, _⟩; exact ⟨u, v⟩
        rw [h6, List.filter_reverse] at h5
        exact (List.reverse_inj.mp h5).symm
      · rw [filt_no hy]; simp
    · rw [List.filter_filter, List.filter_filter]
      refine List.filter_congr fun p hp => eq_of_iff ?_
      rw [Bool.and_eq_true, Bool.and_eq_true]
      refine and_congr_right fun hc => ?_
      have hc' := of_decide_eq_true hc
      rcases (show cs.getD p 0 % 4 = 0 ∨ cs.getD p 0 % 4 = 1 by omega) with e | e
      · exact hop 0 (.inl rfl) p hp e
      · exact hop 1 (.inr rfl) p hp e
end Mine
end
section
theorem Mine.walk_reset_Q11 : True := by
  w_top off
  trivial
open PySem PySem.W PyProof.Rows
set_option maxRecDepth 100000
set_option maxHeartbeats 2000000
namespace Mine
theorem lonesC_eq (cs m : List Int) (ta : List Addr) (lo n hi : Nat) (h : hi = lo + n) : lonesC cs m ta lo hi = (((List.range' lo n).filter (loneQ m lo hi)).filter (clQ cs)).map fun p => ta.getD p 0 := by
  unfold lonesC lones
  rw [show hi - lo = n by omega]
  rfl
theorem lonesO_eq (cs m : List Int) (ta : List Addr) (lo n hi : Nat) (h : hi = lo + n) : lonesO cs m ta lo hi = (((List.range' lo n).filter (loneQ m lo hi)).filter (opQ cs)).map fun p => ta.getD p 0 := by
  unfold lonesO lones
  rw [show hi - lo = n by omega]
  rfl
theorem kap_at {cs : List Int} {ta : List Addr} (tn : ta.Nodup) {p : Nat} (hp : p < ta.length) : kap cs ta (ta.getD p 0) = kq cs p := by
  have e : ta.getD p 0 = ta[p] := by rw [List.getD_eq_getElem?_getD, List.getElem?_eq_getElem hp]; rfl
  unfold kap kq
  rw [e, List.Nodup.idxOf_getElem tn p hp]
theorem merge_ok {cs : List Int} {ta : List Addr} (h7 : cs.length = 7) (hr : ∀ n ∈ cs, 0 ≤ n ∧ n < 16) (t7 : ta.length = 7) (tn : ta.Nodup) {d1 d2 : Dat} (o1 : DatOk cs (msOf cs) ta d1) (o2 : DatOk cs (msOf cs) ta d2) (h12 : d1.hi = d2.lo) :
    d1.cl ++ (diffF (kap cs ta) d1.op.reverse d2.cl []).2 = lonesC cs (msOf cs) ta d1.lo d2.hi ∧ (diffF (kap cs ta) d1.op.reverse d2.cl []).1.reverse ++ d2.op = lonesO cs (msOf cs) ta d1.lo d2.hi := by
  have M := ms_ok h7 hr
  obtain ⟨a, ha⟩ : ∃ a, d1.hi = d1.lo + a := ⟨d1.hi - d1.lo, by have := o1.lt; omega⟩
  obtain ⟨b, hb⟩ : ∃ b, d2.hi = d1.lo + a + b := ⟨d2.hi - (d1.lo + a), by have := o2.lt; omega⟩
  have hlo2 : d2.lo = d1.lo + a := by omega
  have hle : d1.lo + a + b ≤ 7 := by have := o2.le; omega
  obtain ⟨p1, p2⟩ := merge_places h7 M hle
  rw [diff_skip, o1.op, o1.cl, o2.op, o2.cl, hlo2, ha, hb, lonesC_eq _ _ _ _ a _ rfl, lonesO_eq _ _ _ _ a _ rfl, lonesC_eq _ _ _ _ b _ rfl, lonesO_eq _ _ _ _ b _ rfl, lonesC_eq _ _ _ _ (a + b) _ (Nat.add_assoc ..), lonesO_eq _ _ _ _ (a + b) _ (Nat.add_assoc ..), p1, p2]
  have k1 : ∀ p ∈ (((List.range' d1.lo a).filter (loneQ (msOf cs) d1.lo (d1.lo + a))).filter (opQ cs)).reverse, kap cs ta (ta.getD p 0) = kq cs p := fun p hp => by
    have h := (List.mem_filter.mp (List.mem_filter.mp (List.mem_reverse.mp hp)).1).1
    rw [List.mem_range'_1] at h
    exact kap_at tn (by omega)
  have k2 : ∀ p ∈ ((List.range' (d1.lo + a) b).filter (loneQ (msOf cs) (d1.lo + a) (d1.lo + a + b))).filter (clQ cs), kap cs ta (ta.getD p 0) = kq cs p := fun p hp => by
    have h := (List.mem_filter.mp (List.mem_filter.mp hp).1).1
    rw [List.mem_range'_1] at h
    exact kap_at tn (by omega)
  rw [← List.map_reverse, cntK_map _ k1, cntK_map _ k2, skip_map _ _ k1, skip_map _ _ k2, List.map_append, List.map_append, List.map_reverse]
  exact ⟨rfl, rfl⟩
theorem seg0 {cs : List Int} {ta : List Addr} (h7 : cs.length = 7) (hr : ∀ n ∈ cs, 0 ≤ n ∧ n < 16) : SegOk cs (msOf cs) ta 7 ((List.range 7).map (dat0 cs ta)) := by
  have M := ms_ok h7 hr
  have hlohi : ∀ p, (dat0 cs ta p).lo = p ∧ (dat0 cs ta p).hi = p + 1 := fun p => by unfold dat0; split <;> exact ⟨rfl, rfl⟩
  refine ⟨by simp, fun d hd => ?_, fun A d1 d2 C he => ?_⟩
  · obtain ⟨p, hp, rfl⟩ := List.mem_map.mp hd
    have hp7 : p < 7 := List.mem_range.mp hp
    obtain ⟨e1, e2⟩ := hlohi p
    have hlone : loneQ (msOf cs) p (p + 1) p = true := by
      rw [lone_iff]
      rcases (show cs.getD p 0 % 4 = 0 ∨ cs.getD p 0 % 4 = 1 ∨ cs.getD p 0 % 4 = 0 + 2 ∨ cs.getD p 0 % 4 = 1 + 2 by omega) with e | e | e | e
      · rcases M.op' (.inl rfl) hp7 e with ⟨l, hl, em⟩ | em
        · have := hl.lt; rw [em]; omega
        · rw [em]; omega
      · rcases M.op' (.inr rfl) hp7 e with ⟨l, hl, em⟩ | em
        · have := hl.lt; rw [em]; omega
        · rw [em]; omega
      · rcases M.cl' (.inl rfl) hp7 e with ⟨l, hl, em⟩ | em
        · have := hl.lt; rw [em]; omega
        · rw [em]; omega
      · rcases M.cl' (.inr rfl) hp7 e with ⟨l, hl, em⟩ | em
        · have := hl.lt; rw [em]; omega
        · rw [em]; omega
    have hl : (List.range' p 1).filter (loneQ (msOf cs) p (p + 1)) = [p] := by
      show [p].filter _ = [p]
      rw [List.filter_cons_of_pos hlone]; rfl
    have hC := lonesC_eq cs (msOf cs) ta p 1 (p + 1) rfl
    have hO := lonesO_eq cs (msOf cs) ta p 1 (p + 1) rfl
    rw [hl] at hC hO
    refine ⟨by omega, by omega, ?_, ?_⟩
    · rw [e1, e2, hC]
      unfold dat0
      by_cases hc : cs.getD p 0 % 4 < 2
      · rw [if_pos hc, List.filter_cons_of_neg (by unfold clQ; rw [decide_eq_true_iff]; omega)]; rfl
      · rw [if_neg hc, List.filter_cons_of_pos (by unfold clQ; rw [decide_eq_true_iff]; omega)]; rfl
    · rw [e1, e2, hO]
      unfold dat0
      by_cases hc : cs.getD p 0 % 4 < 2
      · rw [if_pos hc, List.filter_cons_of_pos (by unfold opQ; rw [decide_eq_true_iff]; omega)]; rfl
      · rw [if_neg hc, List.filter_cons_of_neg (by unfold opQ; rw [decide_eq_true_iff]; omega)]; rfl
  · have g1 : ((List.range 7).map (dat0 cs ta))[A.length]? = some d1 := by rw [he, List.getElem?_append_right (Nat.le_refl _), Nat.sub_self]; rfl
    have g2 : ((List.range 7).map (dat0 cs ta))[A.length + 1]? = some d2 := by rw [he, List.getElem?_append_right (Nat.le_succ _), show A.length + 1 - A.length = 1 by omega]; rfl
    rw [List.getElem?_map] at g1 g2
    obtain ⟨i, hi, ei⟩ := Option.map_eq_some_iff.mp g1
    obtain ⟨j, hj, ej⟩ := Option.map_eq_some_iff.mp g2
    have hi' : i = A.length := by
      obtain ⟨h1, h2⟩ := List.getElem?_eq_some_iff.mp hi
      rw [List.getElem_range] at h2; exact h2.symm
    have hj' : j = A.length + 1 := by
      obtain ⟨h1, h2⟩ := List.getElem?_eq_some_iff.mp hj
      rw [List.getElem_range] at h2; exact h2.symm
    rw [← ei, ← ej, (hlohi i).2, (hlohi j).1]
    omega
end Mine
end
section
theorem Mine.walk_reset_W1 : True := by
  w_top off
  trivial
open PySem PySem.W PyProof.Rows PySem.Calls
set_option maxRecDepth 100000
set_option maxHeartbeats 100000000
namespace Mine
theorem law_walk : PySem.Challenge.rw_tv0009_01.Holds := by
  refine hd ?_
  lge_go0
  (all_goals try k_fold)
  rename LGe.Mark => lgeM
  clear lgeM
  rename Top _ _ _ _ _ _ => T
  rename Frag.In _ _ => KX
  rename Fr _ _ _ _ => F
  rename News _ _ _ _ => N0
  rename IntsAre _ _ => hI
  rename Heap.IsList _ _ _ => hLs
  rename _ = #[] => hgens
  rename ¬ _ < _ => hlen
  rename_i sc vs _ ra w1 r0 hrd hct K0 hD h₁ tk₁ o8 o7 o6 o5 o4 o3 o2 o1 d8 d7 d6 d5 d4 d3 d2 d1 X0
  rename World => w
  rename Shared => s₁
  rename List Int => ns
  obtain ⟨L, hL⟩ : ∃ L : Nat, L = s₁.heap.objs.size := ⟨_, rfl⟩
  replace F : Fr s₁.heap s₁.heap.objs.size h₁ (mk []) := F
  have c8 : h₁.IsCell (s₁.heap.objs.size + 1 + 1 + 1 + 1 + 1 + 1 + 1 + 1) none := ⟨_, (N0 _ (.head _)).1, d8.trans rfl⟩
  have c7 : h₁.IsCell (s₁.heap.objs.size + 1 + 1 + 1 + 1 + 1 + 1 + 1) none := ⟨_, (N0 _ (.tail _ (.head _))).1, d7.trans rfl⟩
  have c6 : h₁.IsCell (s₁.heap.objs.size + 1 + 1 + 1 + 1 + 1 + 1) none := ⟨_, (N0 _ (.tail _ (.tail _ (.head _)))).1, d6.trans rfl⟩
  have c5 : h₁.IsCell (s₁.heap.objs.size + 1 + 1 + 1 + 1 + 1) none := ⟨_, (N0 _ (.tail _ (.tail _ (.tail _ (.head _))))).1, d5.trans rfl⟩
  have c4 : h₁.IsCell (s₁.heap.objs.size + 1 + 1 + 1 + 1) none := ⟨_, (N0 _ (.tail _ (.tail _ (.tail _ (.tail _ (.head _)))))).1, d4.trans rfl⟩
  have c3 : h₁.IsCell (s₁.heap.objs.size + 1 + 1 + 1) none := ⟨_, (N0 _ (.tail _ (.tail _ (.tail _ (.tail _ (.tail _ (.head _))))))).1, d3.trans rfl⟩
  have c2 : h₁.IsCell (s₁.heap.objs.size + 1 + 1) none := ⟨_, (N0 _ (.tail _ (.tail _ (.tail _ (.tail _ (.tail _ (.tail _ (.head _)))))))).1, d2.trans rfl⟩
  have c1 : h₁.IsCell (s₁.heap.objs.size + 1) (some (.ref sc)) := ⟨_, (N0 _ (.tail _ (.tail _ (.tail _ (.tail _ (.tail _ (.tail _ (.tail _ (.head _))))))))).1, d1.trans rfl⟩
  clear d8 d7 d6 d5 d4 d3 d2 d1 X0 N0
  clear ra w1 r0 hrd hct hD
  have hlim : (vs.length : Int) ≤ 63 := by rw [ints_len hI]; omega
  refine wpAny_mono (Q := fun f s' => f = .ret (.bool true) ∧ keepBase s₁.heap s'.heap ∧ AllBare s'.gens ∧ s'.os = s₁.os) (E := fun _ _ => False) ?body ?qend (fun _ _ z => z.elim)
  case qend =>
    rintro _ ⟨h9, g9, d9, t9, o9⟩ ⟨rfl, hk9, hb9, ho9⟩
    dsimp only at hk9 hb9 ho9
    subst ho9
    refine ⟨.inl ⟨_, _, [], rfl, ?_, ReadsW.bool true, ?_, fun _ => ⟨List.nodup_nil, fun _ hm => (nomatch hm)⟩⟩, OldK.of_keep hk9, rfl, hb9⟩
    · exact fun _ => rfl
    · skip
      first | rfl | wrow_post
  case body =>
  have htop : s₁.heap.objs.size + 8 < h₁.objs.size := by obtain ⟨o, ho, _⟩ := c8; exact Heap.lt_size ho
  have F1 : Fr s₁.heap s₁.heap.objs.size h₁ (mk [("order", none), ("rows", none), ("opened", none), ("closed", none), ("forms", none), ("place", none), ("size", none), ("spot", none), ("told", none), ("lone", none), ("closers", none), ("openers", none)]) := by
    rw [mk_pad [] "order" rfl, mk_pad _ "rows" rfl, mk_pad _ "opened" rfl, mk_pad _ "closed" rfl, mk_pad _ "forms" rfl, mk_pad _ "place" rfl, mk_pad _ "size" rfl, mk_pad _ "spot" rfl, mk_pad _ "told" rfl, mk_pad _ "lone" rfl, mk_pad _ "closers" rfl, mk_pad _ "openers" rfl] at F
    exact F
  have S0 : LSt s₁ s₁.heap.objs.size (lloc none none none none none none none none none none none none)
      [none, some (.ref sc), none, none, none, none, none, none, none] ⟨h₁, s₁.gens, s₁.drawn, tk₁, s₁.os⟩ := by
    exact ⟨.eqs rfl rfl rfl, F1, Cs.of8 c1 c2 c3 c4 c5 c6 c7 c8, rfl, htop⟩
  clear F F1 c1 c2 c3 c4 c5 c6 c7 c8 htop hL
  generalize hLe : s₁.heap.objs.size = L at S0 ⊢
  have hh0 : ∀ env, (callerA.deeper env).handled = none := fun _ => rfl
  generalize hB : callerA.deeper _ = B
  have hBh : B.handled = none := by rw [← hB]; exact hh0 _
  have hBd : B.depth + 100 < recursionLimit := by rw [← hB]; show callerA.depth + 1 + 100 < recursionLimit; decide
  have hBu : B.units + 200 < cLine := by rw [← hB]; show callerA.units + 3 + 200 < cLine; decide
  have hBf : ∃ eo : Env, B.frames = some [eo] ∧ eo.scope.kind ≠ .module ∧ eo.frame = some L := by
    rw [← hB]; exact ⟨_, Around.frames_deeper rfl, (show ScopeKind.function ≠ .module by decide), rfl⟩
  clear hB hh0
  refine wpAny_execs_cons (wpAny_mono (Q := fun f s' => f = .next ∧ ∃ D us, LSt s₁ L (lloc none none none none none none none none none none none none) [none, some (.ref sc), some (.ref D), none, none, none, none, none, none] s' ∧
    Own s₁.heap L s'.heap [(D, listOf us.toArray 0)] ∧ IntsAre us [7, 8, 1, 12, 6, 11, 3]) (E := fun _ _ => False) ?s1 ?k1 (fun _ _ z => z.elim))
  case s1 =>
    have F := S0.fr
    have N : News s₁.heap L h₁ [] := News.nil
    dsimp only at F
    iterate 17 walk1
    refine wpAny_newList ?_
    have hn : h₁.get? h₁.objs.size = none := Heap.get?_none_of_le (Nat.le_refl _)
    refine LSt.storeC (k := 2) (S0.keep (fun b o e => Heap.get?_push_of_some _ e) (.eqs rfl rfl rfl)) rfl rfl rfl (by decide) (by decide) (fun h2 S2 k2 => ?_)
    exact ⟨by first | exact rfl | exact True.intro, h₁.objs.size, _, S2, Own.nil.cons (k2 _ _ (S0.off hn) (Heap.get?_push_size _ rfl)) (S0.off hn) (S0.none0 hn), .cons _ _ (.cons _ _ (.cons _ _ (.cons _ _ (.cons _ _ (.cons _ _ (.cons _ _ .nil))))))⟩
  rintro _ s' ⟨rfl, D1, us1, S, O1, hi1⟩
  dsimp only
  refine wpAny_execs_cons (wpAny_mono (Q := fun f s' => f = .next ∧ ∃ D us ep cs, LSt s₁ L (lloc none none none none none none none none none none none none) [none, some (.ref sc), some (.ref D1), some (.ref D), none, none, none, none, none] s' ∧
    Own s₁.heap L s'.heap [(D, listOf us.toArray ep)] ∧ IntsAre us cs ∧ cs.length = 7 ∧ ∀ n ∈ cs, 0 ≤ n ∧ n < 16) (E := fun _ _ => False) ?s2 ?k2 (fun _ _ z => z.elim))
  case s2 =>
    have F := S.fr
    have esum : nsIn (hd.heap_39 w.params) mainGlobals "sum" = some none := by k_is
    have N : News s₁.heap L s'.heap [] := News.nil
    obtain ⟨h1, g1, dr1, tk1, os1⟩ := s'
    dsimp only at F N O1
    have hl1 : h1.IsList D1 us1.toArray := O1.list (.head _)
    iterate 1 walk1
    refine wpAny_ListComp_free (p := fun _ => true) (F := fun v y => ∃ n t, y = .int n t ∧ 0 ≤ n ∧ n < 16) rfl (by decide) rfl (by decide) (by decide) ?_
    iterate 7 walk1
    rename_i h3 tk3 _ _ _ hRg F3 N3 k3
    dsimp only at k3 hRg ⊢
    refine wpAny_pyIter_range hRg (by decide) ?_
    refine ⟨_, _, _, 7, _, _, rfl, bounded (Walks.range hBh _ 0 1 7), by rw [sizeLine_eq]; omega, iter_start (by decide), push_one, ⟨?tests, ?elt⟩, ?fin⟩
    case tests =>
      intro C i v s₃ m₃ E' hC hP hns hm hk htk
      exact wpAny_tests_nil ⟨rfl, keeps_refl _⟩
    case elt =>
      intro C i v s₃ m₃ E' hC hP _ hns hm hk htk
      obtain ⟨hiv, ti, rfl⟩ := hP
      have kk : ∀ b o, h1.get? b = some o → s₃.heap.get? b = some o := fun b o e => push_back hk b o (by first | exact k3 b o e | exact e)
      have hst := (S.cs.at_ 2 (by decide) (by decide)).keeps kk
      have hsc := (S.cs.at_ 1 (by decide) (by decide)).keeps kk
      iterate 3 walk1
      refine wpAny_Name (wpAny_loadName_cell rfl rfl rfl hst ?_)
      refine wpAny_Name (wpAny_loadName_local rfl rfl hns hm ?_)
      obtain ⟨ti1, hti1⟩ := ints_get hi1 (k := i) hiv
      have e0 : (0 + (i : Int) * 1).toNat = i := by omega
      refine item_list (hl1.at fun o e => kk _ _ e) (by omega) (by omega) (by rw [e0]; exact hti1) ?_
      iterate 1 walk1
      have F9 := fr_off S.fr (fun b o e _ => kk b o e)
      refine LCgL.ld_built F9 KX T esum PyProof.Rows.Boot.«sum» (by decide) ?_
      iterate 3 walk1
      refine wpAny_Name (wpAny_loadName_cell rfl rfl rfl hsc ?_)
      iterate 1 walk1
      refine wpAny_Name (wpAny_loadName_local rfl rfl hns hm ?_)
      iterate 3 walk1
      dsimp only
      refine slice_any' (s := ⟨s₃.heap, s₃.gens, s₃.drawn, s₃.toks + 1, s₃.os⟩) (hLs.at fun o e => kk _ _ (S.fr.keep _ _ e)) (st := some 8) (.int _ _) .none (.int _ _) (by decide) (fun h4 k4 l4 _ => ?_) (by rw [sizeLine_eq, List.size_toArray]; omega) (by with_unfolding_all rfl)
      iterate 1 walk1
      refine sum_ints' hBh (by simpa using l4) (IntsAre.pick hI _ _ _) (fun h5 tk5 t5 k5 => ?_)
      iterate 3 walk1
      refine ⟨⟨_, _, rfl, ?_, ?_⟩, h5, _, rfl, fun b o e => ?_⟩
      · exact Int.fmod_nonneg_of_pos _ (by decide)
      · exact Int.fmod_lt_of_pos _ (by decide)
      · exact k5 b o (k4 b o e)
    case fin =>
      intro D h' tk' ys vs' hD hl hpl hlen' hj hPa hk
      have k9 : ∀ b o, h1.get? b = some o → h'.get? b = some o := fun b o e => push_back hk b o (by first | exact k3 b o e | exact e)
      have hn : h1.get? D = none := by
        cases e : h1.get? D with
        | none => rfl
        | some o => rw [Heap.get?_push_of_some _ (k3 _ _ e)] at hD; cases hD
      obtain ⟨ep, hD'⟩ := hpl
      obtain ⟨cs, hi2, hb2⟩ := ints_of hPa
      refine LSt.storeC (k := 3) (S.keep k9 (.eqs rfl rfl rfl)) rfl rfl rfl (by decide) (by decide) (fun h2 S2 k2 => ?_)
      refine ⟨by first | exact rfl | exact True.intro, D, ys.toList, ep, cs, S2, Own.nil.cons (k2 _ _ (S.off hn) hD') (S.off hn) (S.none0 hn), hi2, ?_, hb2⟩
      rw [← ints_len hi2, ← hPa.length]
      rw [List.filter_eq_self.mpr fun _ _ => rfl, hlen']
  try clear S
  rintro _ s' ⟨rfl, D2, us2, ep2, cs, S, O2, hi2, hcl, hcr⟩
  dsimp only
  refine wpAny_execs_cons (wpAny_mono (Q := fun f s' => f = .next ∧ ∃ od ot, LSt s₁ L (lloc (some (.int od ot)) none none none none none none none none none none none) [none, some (.ref sc), some (.ref D1), some (.ref D2), none, none, none, none, none] s' ∧
    Own s₁.heap L s'.heap [(D2, listOf us2.toArray ep2)] ∧ 0 ≤ od ∧ od < 720) (E := fun _ _ => False) ?s3 ?k3 (fun _ _ z => z.elim))
  case s3 =>
    have F := S.fr
    have N : News s₁.heap L s'.heap [] := News.nil
    obtain ⟨h1, g1, dr1, tk1, os1⟩ := s'
    dsimp only at F N O2
    iterate 8 walk1
    refine wpAny_Name (wpAny_loadName_cell rfl rfl rfl (S.cs.at_ 1 (by decide) (by decide)) ?_)
    iterate 1 walk1
    refine sum_ints' hBh (hLs.at fun o e => S.fr.keep _ _ e) hI (fun h5 tk5 t5 k5 => ?_)
    iterate 3 walk1
    dsimp only
    refine LSt.storeN (S.keep (s' := ⟨h5, _, _, _, _⟩) k5 (.eqs rfl rfl rfl)) rfl rfl (fun h6 tk6 S6 k6 => ?_)
    refine ⟨by first | exact rfl | exact True.intro, _, _, S6, (O2.keep fun b o _ e => k5 b o e).keep k6, Int.fmod_nonneg_of_pos _ (by decide), Int.fmod_lt_of_pos _ (by decide)⟩
  try clear S
  rintro _ s' ⟨rfl, od, ot, S, O2, ho0, ho1⟩
  dsimp only
  refine wpAny_execs_cons (wpAny_mono (Q := fun f s' => f = .next ∧ ∃ D p0 u0 e0 p1 u1 e1, LSt s₁ L (lloc (some (.int od ot)) (some (.ref D)) none none none none none none none none none none) [none, some (.ref sc), some (.ref D1), some (.ref D2), none, none, none, none, none] s' ∧
    Own s₁.heap L s'.heap [(D, listOf #[.ref p0, .ref p1] 0), (p0, listOf u0 e0), (p1, listOf u1 e1), (D2, listOf us2.toArray ep2)] ∧ StrsAre u0.toList (cs.map (part 0)) ∧ StrsAre u1.toList (cs.map (part 1))) (E := fun _ _ => False) ?s4 ?k4 (fun _ _ z => z.elim))
  case s4 =>
    have F := S.fr
    have N : News s₁.heap L s'.heap [] := News.nil
    obtain ⟨h1, g1, dr1, tk1, os1⟩ := s'
    dsimp only at F N O2
    iterate 7 walk1
    refine wpAny_Name (wpAny_loadName_cell rfl rfl rfl (S.cs.at_ 3 (by decide) (by decide)) ?_)
    iterate 3 walk1
    refine ⟨KX.keeps F.keep, wpAny_call (parts_call (kind := 0) (KX.keeps F.keep) (T.keeps F.keep) (O2.list (.head _)) hi2 hcr (by omega) (by omega) hBh (by omega) fun s2 p0 u0 e0 kp g0 hs0 hn0 => ?_)⟩
    have S2 := S.call kp
    have O3 := (O2.keep fun b o _ e => kp.heap b o e).cons g0 (S.off hn0) (S.none0 hn0)
    clear F N kp
    obtain ⟨h2, g2, dr2, tk2, os2⟩ := s2
    have F := S2.fr
    have N : News s₁.heap L h2 [] := News.nil
    dsimp only at F O3 ⊢
    iterate 5 walk1
    refine wpAny_Name (wpAny_loadName_cell rfl rfl rfl (S2.cs.at_ 3 (by decide) (by decide)) ?_)
    iterate 3 walk1
    refine ⟨KX.keeps F.keep, wpAny_call (parts_call (kind := 1) (KX.keeps F.keep) (T.keeps F.keep) (O3.list (.tail _ (.head _))) hi2 hcr (by omega) (by omega) hBh (by omega) fun s3 p1 u1 e1 kp g1 hs1 hn1 => ?_)⟩
    have S3 := S2.call kp
    have O4 := (O3.keep fun b o _ e => kp.heap b o e).cons g1 (S2.off hn1) (S2.none0 hn1)
    clear F N kp
    obtain ⟨h3, g3, dr3, tk3, os3⟩ := s3
    have F := S3.fr
    have N : News s₁.heap L h3 [] := News.nil
    dsimp only at F O4 ⊢
    iterate 1 walk1
    refine wpAny_newList ?_
    have hn : h3.get? h3.objs.size = none := Heap.get?_none_of_le (Nat.le_refl _)
    refine LSt.storeN (S3.keep (fun b o e => Heap.get?_push_of_some _ e) (.eqs rfl rfl rfl)) rfl rfl (fun h6 tk6 S6 k6 => ?_)
    have O5 := ((O4.keep fun b o _ e => Heap.get?_push_of_some _ e).cons (Heap.get?_push_size _ rfl) (S3.off hn) (S3.none0 hn)).keep k6
    refine ⟨by first | exact rfl | exact True.intro, h3.objs.size, p0, u0, e0, p1, u1, e1, S6, fun p hp => ?_, hs0, hs1⟩
    rcases List.mem_cons.mp hp with rfl | hp
    · exact O5 _ (.head _)
    rcases List.mem_cons.mp hp with rfl | hp
    · exact O5 _ (.tail _ (.tail _ (.head _)))
    rcases List.mem_cons.mp hp with rfl | hp
    · exact O5 _ (.tail _ (.head _))
    · exact O5 _ (.tail _ (.tail _ (.tail _ hp)))
  try clear S
  rintro _ s' ⟨rfl, DR, p0, u0, e0, p1, u1, e1, S, O4, hs0, hs1⟩
  dsimp only
  refine wpAny_execs_cons (wpAny_mono (Q := fun f s' => f = .next ∧ ∃ D um om, LSt s₁ L (lloc (some (.int od ot)) (some (.ref DR)) none none none none none none none none none none) [none, some (.ref sc), some (.ref D1), some (.ref D2), some (.ref D), none, none, none, none] s' ∧
    Own s₁.heap L s'.heap [(D, om), (DR, listOf #[.ref p0, .ref p1] 0), (p0, listOf u0 e0), (p1, listOf u1 e1), (D2, listOf us2.toArray ep2)] ∧ (∀ h' : Heap, h'.get? D = some om → h'.IsList D um) ∧ IntsAre um.toList (matesF cs (rowsOf cs))) (E := fun _ _ => False) ?s5 ?k5 (fun _ _ z => z.elim))
  case s5 =>
    have F := S.fr
    have N : News s₁.heap L s'.heap [] := News.nil
    obtain ⟨h1, g1, dr1, tk1, os1⟩ := s'
    dsimp only at F N O4
    iterate 5 walk1
    refine wpAny_Name (wpAny_loadName_cell rfl rfl rfl (S.cs.at_ 3 (by decide) (by decide)) ?_)
    iterate 3 walk1
    refine ⟨KX.keeps F.keep, wpAny_call (mates_call (KX.keeps F.keep) (T.keeps F.keep) (O4.list (.tail _ (.tail _ (.tail _ (.head _))))) hi2 hcr hcl (O4.list (.head _)) (u0 := u0.toList) (u1 := u1.toList) (by simpa using O4.list (.tail _ (.head _))) (by simpa using O4.list (.tail _ (.tail _ (.head _)))) hs0 hs1
      (by rw [List.length_map]; exact hcl) (by rw [List.length_map]; exact hcl) (seg_ok hcl hcr) (part_len hcr) (by omega) hBh (by omega) fun s2 D us kp hD hi hn => ?_)⟩
    have S2 := S.call kp
    obtain ⟨om, hom, hol⟩ := list_obj hD
    have O5 := (O4.keep fun b o _ e => kp.heap b o e).cons hom (S.off hn) (S.none0 hn)
    refine LSt.storeC (k := 4) S2 rfl rfl rfl (by decide) (by decide) (fun h2 S3 k2 => ?_)
    exact ⟨by first | exact rfl | exact True.intro, D, us, om, S3, O5.keep k2, hol, hi⟩
  try clear S
  rintro _ s' ⟨rfl, D3, um, om, S, O, hml, hmi⟩
  dsimp only
  refine wpAny_execs_cons (wpAny_mono (Q := fun f s' => f = .next ∧ LSt s₁ L (lloc (some (.int od ot)) (some (.ref DR)) none none none none none none none none none none) [none, some (.ref sc), some (.ref D1), some (.ref D2), some (.ref D3), none, none, none, none] s' ∧
    Own s₁.heap L s'.heap [(D3, om), (DR, listOf #[.ref p0, .ref p1] 0), (p0, listOf u0 e0), (p1, listOf u1 e1), (D2, listOf us2.toArray ep2)]) (E := fun _ _ => False) ?s6 ?k6 (fun _ _ z => z.elim))
  case s6 =>
    have F := S.fr
    have N : News s₁.heap L s'.heap [] := News.nil
    obtain ⟨h1, g1, dr1, tk1, os1⟩ := s'
    dsimp only at F N O
    iterate 2 walk1
    refine wpAny_Name (wpAny_loadName_cell rfl rfl rfl (S.cs.at_ 4 (by decide) (by decide)) ?_)
    iterate 3 walk1
    rw [if_neg (show ¬ false = true by decide)]
    refine wpAny_execs_nil ?_
    exact ⟨by first | exact rfl | exact True.intro, S, O⟩
  try clear S
  rintro _ s' ⟨rfl, S, O⟩
  dsimp only
  have hml' : um.toList.length = 7 := by rw [ints_len hmi]; exact mates_len cs
  refine wpAny_execs_cons (wpAny_mono (Q := fun f s' => f = .next ∧ ∃ x3 x4 x5, LSt s₁ L (lloc (some (.int od ot)) (some (.ref DR)) x3 x4 none none none none none none none none) [none, some (.ref sc), some (.ref D1), some (.ref D2), some (.ref D3), x5, none, none, none] s' ∧
    Own s₁.heap L s'.heap [(D3, om), (DR, listOf #[.ref p0, .ref p1] 0), (p0, listOf u0 e0), (p1, listOf u1 e1), (D2, listOf us2.toArray ep2)]) (E := fun _ _ => False) ?s7 ?k7 (fun _ _ z => z.elim))
  case s7 =>
    have F := S.fr
    have N : News s₁.heap L s'.heap [] := News.nil
    obtain ⟨h1, g1, dr1, tk1, os1⟩ := s'
    dsimp only at F N O
    refine wpAny_For ?_
    iterate 6 walk1
    refine wpAny_newList ?_
    refine wpAny_pyIter_list (l := h1.objs.size) (items := [Value.int 0 tk1, Value.int 1 (tk1 + 1)].toArray) ⟨_, Heap.get?_push_size _ rfl, rfl, _, rfl⟩ ?_
    dsimp only
    obtain ⟨its, hits⟩ : ∃ its, its = [Value.int 0 tk1, Value.int 1 (tk1 + 1)].toArray := ⟨_, rfl⟩
    have O1 := O.push (o := listOf its 0) S.offS S.noneS rfl
    have S1 := S.pushS (o := listOf its 0) (t' := tk1 + 2)
    have hz : its.size = 2 := by rw [hits]; rfl
    have hat : ∀ j v, j < its.size → its[j]? = some v → ∃ t, v = Value.int (j : Int) t := by
      intro j v hj hv
      rw [hz] at hj
      rw [hits] at hv
      have : j = 0 ∨ j = 1 := by omega
      rcases this with h | h <;> subst h
      · exact ⟨tk1, by simpa using hv.symm⟩
      · exact ⟨tk1 + 1, by simpa using hv.symm⟩
    rw [← hits]
    clear hits F N O S
    obtain ⟨K, hK⟩ : ∃ K : Nat, K = h1.objs.size := ⟨_, rfl⟩
    have O := O1
    rw [← hK] at O ⊢
    clear O1
    generalize h1.push _ = H1 at *
    have hI0 : Off L H1.objs.size := S1.offS
    have hI1 : s₁.heap.get? H1.objs.size = none := S1.noneS
    have hI2 := O.lt
    refine for_walks (Walks.list hBh H1.objs.size K (Nat.ne_of_lt (Heap.lt_size (O _ (.head _)).1)) its) (fun j s' => ∃ x3 x4 x5, LSt s₁ L (lloc (some (.int od ot)) (some (.ref DR)) x3 x4 none none none none none none none none) [none, some (.ref sc), some (.ref D1), some (.ref D2), some (.ref D3), x5, none, none, none] s' ∧
      Own s₁.heap L s'.heap [(K, listOf its 0), (D3, om), (DR, listOf #[.ref p0, .ref p1] 0), (p0, listOf u0 e0), (p1, listOf u1 e1), (D2, listOf us2.toArray ep2)]) ?hJ ?step ?fin ?h0 ?st
    case hJ =>
      rintro j s1 h' tk ⟨x3, x4, x5, S, O⟩ hk
      exact ⟨x3, x4, x5, S.keepI (s' := ⟨h', _, _, _, _⟩) hI0 hI1 hk (.eqs rfl rfl rfl), O.keepI hI2 hk⟩
    case st => exact ⟨⟨_, Heap.get?_push_size _ rfl, rfl, rfl⟩, (O.list (.head _)).at fun o e => Heap.get?_push_of_some _ e⟩
    case h0 => exact ⟨none, none, none, S1.pushS, O.keep fun _ _ _ e => Heap.get?_push_of_some _ e⟩
    case fin =>
      rintro ⟨hp, g, dr, tk, os⟩ ⟨x3, x4, x5, S, O⟩
      refine wpAny_execs_nil ?_
      exact ⟨rfl, x3, x4, x5, S, O.tail⟩
    case step =>
      clear O S1
      rintro j v ⟨hp, g, dr, tk, os⟩ hj hv ⟨x3, x4, x5, S, O⟩
      obtain ⟨tv, rfl⟩ := hat j v hj hv
      have hj2 : j < 2 := by rw [hz] at hj; exact hj
      clear hv hj
      refine wpAny_assign_Name (LSt.storeC (k := 5) S rfl rfl rfl (by decide) (by decide) (fun h2 S2 k2 => ?_))
      refine hide (fun PP hPP => ?_)
      have O2 := O.keep k2
      clear S O
      obtain ⟨m, hm⟩ : ∃ m, m = msOf cs := ⟨_, rfl⟩
      rw [show matesF cs (rowsOf cs) = m from hm.symm] at hmi
      refine wpAny_execs_cons (wpAny_mono (Q := fun f s' => f = .next ∧ (∃ to, LSt s₁ L (lloc (some (.int od ot)) (some (.ref DR)) (some (.int (cnt cs m j) to)) x4 none none none none none none none none) [none, some (.ref sc), some (.ref D1), some (.ref D2), some (.ref D3), some (.int j tv), none, none, none] s') ∧ (∀ b o, Off L b → h2.get? b = some o → s'.heap.get? b = some o)) (E := fun _ _ => False) ?b1 ?c1 (fun _ _ z => z.elim))
      case b1 =>
        have F := S2.fr
        have N : News s₁.heap L h2 [] := News.nil
        dsimp only at F
        have hlc : h2.IsList D2 us2.toArray := O2.list (.tail _ (.tail _ (.tail _ (.tail _ (.tail _ (.head _))))))
        have hlm : h2.IsList D3 um.toList.toArray := by simpa using hml _ (O2 _ (.tail _ (.head _))).1
        iterate 5 walk1
        refine wpAny_ListComp_free (p := onInt (cntQ cs m j)) (F := fun v y => True) rfl (by decide) rfl (by decide) (by decide) ?_
        iterate 7 walk1
        rename_i h3 tk3 _ _ _ hRg F3 N3 k3
        dsimp only at k3 hRg ⊢
        refine wpAny_pyIter_range hRg (by decide) ?_
        refine ⟨_, _, _, 7, _, _, rfl, bounded (Walks.range hBh _ 0 1 7), by rw [sizeLine_eq]; omega, iter_start (by decide), push_one, ⟨?tests, ?elt⟩, ?fin⟩
        case tests =>
          intro C i v s₃ m₃ E' hC hP hns hm' hk htk
          obtain ⟨hiv, ti, rfl⟩ := hP
          have kk : ∀ b o, h2.get? b = some o → s₃.heap.get? b = some o := fun b o e => push_back hk b o (by first | exact k3 b o e | exact e)
          refine wpAny_tests_one ?_
          have e0 : (0 + (i : Int) * 1).toNat = i := by omega
          obtain ⟨tc, htc⟩ := ints_get hi2 (k := i) (by omega)
          obtain ⟨tm, htm⟩ := ints_get hmi (k := i) (by rw [hm, mates_len]; exact hiv)
          iterate 4 walk1
          refine wpAny_Name (wpAny_loadName_cell rfl rfl rfl ((S2.cs.at_ 3 (by decide) (by decide)).keeps kk) ?_)
          refine wpAny_Name (wpAny_loadName_local rfl rfl hns hm' ?_)
          refine item_list (hlc.at fun o e => kk _ _ e) (by omega) (by omega) (by rw [e0]; exact htc) ?_
          iterate 2 walk1
          refine wpAny_Name (wpAny_loadName_cell rfl rfl rfl ((S2.cs.at_ 5 (by decide) (by decide)).keeps kk) ?_)
          iterate 2 walk1
          have hq : ∀ b : Bool, onInt (cntQ cs m j) (Value.int (0 + (i : Int) * 1) ti) = b ↔ (cs.getD i 0 % 4 == (j : Int) && decide (m.getD i 0 < 0)) = b := fun b => by
            show (cs.getD (0 + (i : Int) * 1).toNat 0 % 4 == (j : Int) && decide (m.getD (0 + (i : Int) * 1).toNat 0 < 0)) = b ↔ _
            rw [e0]
          rw [fm4]
          by_cases hq1 : (cs.getD i 0 % 4 == (j : Int)) = true
          · rw [if_pos hq1]
            rw [hq1, Bool.true_and] at hq
            iterate 3 walk1
            refine wpAny_Name (wpAny_loadName_cell rfl rfl rfl ((S2.cs.at_ 4 (by decide) (by decide)).keeps kk) ?_)
            refine wpAny_Name (wpAny_loadName_local rfl rfl hns hm' ?_)
            refine item_list (hlm.at fun o e => kk _ _ e) (by omega) (by omega) (by rw [e0]; exact htm) ?_
            iterate 3 walk1
            by_cases hq2 : decide (m.getD i 0 < 0) = true
            · rw [if_pos hq2]
              rw [hq2] at hq
              iterate 1 walk1
              exact ⟨((hq _).mpr rfl).symm, _, _, rfl, fun b o e => e⟩
            · rw [if_neg hq2]
              rw [Bool.eq_false_iff.mpr hq2] at hq
              exact ⟨((hq _).mpr rfl).symm, _, _, rfl, fun b o e => e⟩
          · rw [if_neg hq1]
            rw [Bool.eq_false_iff.mpr hq1, Bool.false_and] at hq
            exact ⟨((hq _).mpr rfl).symm, _, _, rfl, fun b o e => e⟩
        case elt =>
          intro C i v s₃ m₃ E' hC hP _ hns hm hk htk
          refine wpAny_Name (wpAny_loadName_local rfl rfl hns hm ?_)
          exact ⟨trivial, keeps_refl _⟩
        case fin =>
          intro D h' tk' ys vs' hD hl hpl hlen' hj' hPa hk
          have k9 : ∀ b o, h2.get? b = some o → h'.get? b = some o := fun b o e => push_back hk b o (by first | exact k3 b o e | exact e)
          iterate 1 walk1
          have hr7 := ints_range (a := 0) hlen' (fun jj v hv => (hj' jj v hv).2)
          have hcnt : ys.size = cnt cs m j := by
            have e1 := hPa.length
            rw [ints_len (ints_filter hr7 (cntQ cs m j))] at e1
            have e2 : ys.toList.length = ys.size := by simp
            rw [← e2, ← e1]; rfl
          have hle7 : cnt cs m j ≤ 7 := cnt_le cs m j
          refine len_list hl (by omega) ?_
          rw [hcnt]
          refine LSt.storeN (S2.heapS k9) rfl rfl (fun h6 tk6 S6 k6 => ?_)
          exact ⟨by first | exact rfl | exact True.intro, ⟨_, S6⟩, fun b o hb e => k6 b o hb (k9 b o e)⟩
      rintro _ ⟨h4, g4, dr4, tk4, os4⟩ ⟨rfl, ⟨to4, S4⟩, k4'⟩
      dsimp only at k4'
      have O4 := O2.keep k4'
      dsimp only
      refine wpAny_execs_cons (wpAny_mono (Q := fun f s' => f = .next ∧ (∃ to, LSt s₁ L (lloc (some (.int od ot)) (some (.ref DR)) (some (.int (cnt cs m j) to4)) (some (.int (cnt cs m (j + 2)) to)) none none none none none none none none) [none, some (.ref sc), some (.ref D1), some (.ref D2), some (.ref D3), some (.int j tv), none, none, none] s') ∧ (∀ b o, Off L b → h4.get? b = some o → s'.heap.get? b = some o)) (E := fun _ _ => False) ?b2 ?c2 (fun _ _ z => z.elim))
      case b2 =>
        have F := S4.fr
        have N : News s₁.heap L h4 [] := News.nil
        dsimp only at F
        have hlc : h4.IsList D2 us2.toArray := O4.list (.tail _ (.tail _ (.tail _ (.tail _ (.tail _ (.head _))))))
        have hlm : h4.IsList D3 um.toList.toArray := by simpa using hml _ (O4 _ (.tail _ (.head _))).1
        iterate 5 walk1
        refine wpAny_ListComp_free (p := onInt (cntQ cs m (j + 2))) (F := fun v y => True) rfl (by decide) rfl (by decide) (by decide) ?_
        iterate 7 walk1
        rename_i h3 tk3 _ _ _ hRg F3 N3 k3
        dsimp only at k3 hRg ⊢
        refine wpAny_pyIter_range hRg (by decide) ?_
        refine ⟨_, _, _, 7, _, _, rfl, bounded (Walks.range hBh _ 0 1 7), by rw [sizeLine_eq]; omega, iter_start (by decide), push_one, ⟨?tests, ?elt⟩, ?fin⟩
        case tests =>
          intro C i v s₃ m₃ E' hC hP hns hm' hk htk
          obtain ⟨hiv, ti, rfl⟩ := hP
          have kk : ∀ b o, h4.get? b = some o → s₃.heap.get? b = some o := fun b o e => push_back hk b o (by first | exact k3 b o e | exact e)
          refine wpAny_tests_one ?_
          have e0 : (0 + (i : Int) * 1).toNat = i := by omega
          obtain ⟨tc, htc⟩ := ints_get hi2 (k := i) (by omega)
          obtain ⟨tm, htm⟩ := ints_get hmi (k := i) (by rw [hm, mates_len]; exact hiv)
          iterate 4 walk1
          refine wpAny_Name (wpAny_loadName_cell rfl rfl rfl ((S4.cs.at_ 3 (by decide) (by decide)).keeps kk) ?_)
          refine wpAny_Name (wpAny_loadName_local rfl rfl hns hm' ?_)
          refine item_list (hlc.at fun o e => kk _ _ e) (by omega) (by omega) (by rw [e0]; exact htc) ?_
          iterate 3 walk1
          refine wpAny_Name (wpAny_loadName_cell rfl rfl rfl ((S4.cs.at_ 5 (by decide) (by decide)).keeps kk) ?_)
          iterate 4 walk1
          have hq : ∀ b : Bool, onInt (cntQ cs m (j + 2)) (Value.int (0 + (i : Int) * 1) ti) = b ↔ (cs.getD i 0 % 4 == (j : Int) + 2 && decide (m.getD i 0 < 0)) = b := fun b => by
            show (cs.getD (0 + (i : Int) * 1).toNat 0 % 4 == (j : Int) + 2 && decide (m.getD (0 + (i : Int) * 1).toNat 0 < 0)) = b ↔ _
            rw [e0]
          rw [fm4]
          by_cases hq1 : (cs.getD i 0 % 4 == (j : Int) + 2) = true
          · rw [if_pos hq1]
            rw [hq1, Bool.true_and] at hq
            iterate 3 walk1
            refine wpAny_Name (wpAny_loadName_cell rfl rfl rfl ((S4.cs.at_ 4 (by decide) (by decide)).keeps kk) ?_)
            refine wpAny_Name (wpAny_loadName_local rfl rfl hns hm' ?_)
            refine item_list (hlm.at fun o e => kk _ _ e) (by omega) (by omega) (by rw [e0]; exact htm) ?_
            iterate 3 walk1
            by_cases hq2 : decide (m.getD i 0 < 0) = true
            · rw [if_pos hq2]
              rw [hq2] at hq
              iterate 1 walk1
              exact ⟨((hq _).mpr rfl).symm, _, _, rfl, fun b o e => e⟩
            · rw [if_neg hq2]
              rw [Bool.eq_false_iff.mpr hq2] at hq
              exact ⟨((hq _).mpr rfl).symm, _, _, rfl, fun b o e => e⟩
          · rw [if_neg hq1]
            rw [Bool.eq_false_iff.mpr hq1, Bool.false_and] at hq
            exact ⟨((hq _).mpr rfl).symm, _, _, rfl, fun b o e => e⟩
        case elt =>
          intro C i v s₃ m₃ E' hC hP _ hns hm hk htk
          refine wpAny_Name (wpAny_loadName_local rfl rfl hns hm ?_)
          exact ⟨trivial, keeps_refl _⟩
        case fin =>
          intro D h' tk' ys vs' hD hl hpl hlen' hj' hPa hk
          have k9 : ∀ b o, h4.get? b = some o → h'.get? b = some o := fun b o e => push_back hk b o (by first | exact k3 b o e | exact e)
          iterate 1 walk1
          have hr7 := ints_range (a := 0) hlen' (fun jj v hv => (hj' jj v hv).2)
          have hcnt : ys.size = cnt cs m (j + 2) := by
            have e1 := hPa.length
            rw [ints_len (ints_filter hr7 (cntQ cs m (j + 2)))] at e1
            have e2 : ys.toList.length = ys.size := by simp
            rw [← e2, ← e1]; rfl
          have hle7 : cnt cs m (j + 2) ≤ 7 := cnt_le cs m _
          refine len_list hl (by omega) ?_
          rw [hcnt]
          refine LSt.storeN (S4.heapS k9) rfl rfl (fun h6 tk6 S6 k6 => ?_)
          exact ⟨by first | exact rfl | exact True.intro, ⟨_, S6⟩, fun b o hb e => k6 b o hb (k9 b o e)⟩
      rintro _ ⟨h6, g6, dr6, tk6, os6⟩ ⟨rfl, ⟨to6, S6⟩, k6'⟩
      dsimp only at k6'
      have O6 := O4.keep k6'
      dsimp only
      have F := S6.fr
      have N : News s₁.heap L h6 [] := News.nil
      dsimp only at F
      iterate 15 walk1
      refine wpAny_Name (wpAny_loadName_cell rfl rfl rfl (S6.cs.at_ 5 (by decide) (by decide)) ?_)
      obtain ⟨pk, uk, ek, hpk, hpl, hps⟩ : ∃ pk uk ek, [Value.ref p0, .ref p1][j]? = some (.ref pk) ∧ h6.get? pk = some (listOf uk ek) ∧ StrsAre uk.toList ((rowsOf cs).getD j []) := by
        have : j = 0 ∨ j = 1 := by omega
        rcases this with h | h <;> rw [h]
        · exact ⟨p0, u0, e0, rfl, (O6 _ (.tail _ (.tail _ (.tail _ (.head _))))).1, hs0⟩
        · exact ⟨p1, u1, e1, rfl, (O6 _ (.tail _ (.tail _ (.tail _ (.tail _ (.head _)))))).1, hs1⟩
      refine item_list (l := DR) (vs := [Value.ref p0, .ref p1]) (O6.list (.tail _ (.tail _ (.head _)))) (by omega) (by omega) (by simpa using hpk) ?_
      iterate 1 walk1
      refine join_listW ⟨_, hpl, rfl, _, rfl⟩ hps (by decide) (row_sum hcl hcr j hj2) fun t8 k8 => ?_
      iterate 6 walk1
      obtain ⟨hA, hB', hC, hxl⟩ := taken_ok hcl hcr j hj2
      rw [← hm] at hA hB' hC
      refine wpAny_call (taken_call (x := txt cs j) (KX.keeps S6.fr.keep) (T.keeps S6.fr.keep) (a := cnt cs m (j + 2)) (b := cnt cs m j) ⟨by omega, by have := cnt_le cs m (j + 2); omega⟩ ⟨by omega, by have := cnt_le cs m j; omega⟩ hxl hA hB' hC (by omega) hBh (by omega) fun s1 kp => ?_)
      have S7 := S6.call kp
      have O7 := O6.keep fun b o _ e => kp.heap b o e
      obtain ⟨h7, g7, dr7, tk7, os7⟩ := s1
      have F := S7.fr
      have N : News s₁.heap L h7 [] := News.nil
      dsimp only at F
      iterate 3 walk1
      dsimp only
      refine wpAny_execs_nil ?_
      refine hPP _ _ ?_
      refine ⟨fun b hb o e => ?_, _, _, _, S7, O7⟩
      have hof : Off L b := by
        rcases List.mem_cons.mp hb with rfl | hb
        · exact hI0
        · rw [List.mem_singleton.mp hb]; exact (O2 _ (.head _)).2.1
      exact kp.heap _ _ (k6' _ _ hof (k4' _ _ hof (k2 _ _ hof e)))
  try clear S
  rintro _ s' ⟨rfl, x3, x4, x5, S, O⟩
  dsimp only
  refine wpAny_execs_cons (wpAny_mono (Q := fun f s' => f = .next ∧ ∃ D ta ep, LSt s₁ L (lloc (some (.int od ot)) (some (.ref DR)) x3 x4 none none none none none none none none) [none, some (.ref sc), some (.ref D1), some (.ref D2), some (.ref D3), x5, some (.ref D), none, none] s' ∧
    ThOk s₁.heap L s'.heap cs ta ∧ Own s₁.heap L s'.heap [(D, listOf (refs ta) ep), (D3, om), (DR, listOf #[.ref p0, .ref p1] 0), (p0, listOf u0 e0), (p1, listOf u1 e1), (D2, listOf us2.toArray ep2)]) (E := fun _ _ => False) ?s8 ?k8 (fun _ _ z => z.elim))
  case s8 =>
    have F := S.fr
    have N : News s₁.heap L s'.heap [] := News.nil
    obtain ⟨h2, g1, dr1, tk1, os1⟩ := s'
    dsimp only at F N O
    have hlc : h2.IsList D2 us2.toArray := O.list (.tail _ (.tail _ (.tail _ (.tail _ (.head _)))))
    iterate 1 walk1
    refine wpAny_ListComp_freeO (p := fun _ => true) (G := fun v its => ∃ n u t, v = .int n u ∧ its = [Value.int (n % 2) t].toArray) rfl (by decide) rfl (by decide) (by decide) ?_
    refine wpAny_Name (wpAny_loadName_cell rfl rfl rfl (S.cs.at_ 3 (by decide) (by decide)) ?_)
    refine wpAny_pyIter_list hlc ?_
    have hcI : D2 ≠ h2.objs.size := by obtain ⟨o, ho, _⟩ := hlc; exact Nat.ne_of_lt (Heap.lt_size ho)
    refine ⟨_, _, _, us2.toArray.size, _, _, rfl, bounded (Walks.list hBh h2.objs.size D2 hcI us2.toArray), by rw [sizeLine_eq, List.size_toArray, ints_len hi2]; omega, ?hlive, ⟨⟨_, Heap.get?_push_size _ rfl, rfl, rfl⟩, hlc.at fun o e => Heap.get?_push_of_some _ e⟩, ?hfp, ⟨?tests, ?elt⟩, ?fin⟩
    case hlive =>
      intro i h st b hb
      rw [List.mem_singleton.mp hb]
      obtain ⟨⟨o, ho, _⟩, _⟩ := st
      exact ⟨o, ho⟩
    case hfp =>
      intro b hb
      show b < (h2.push _).objs.size
      rw [Heap.size_push]
      rcases List.mem_cons.mp hb with rfl | hb
      · exact Nat.lt_succ_self _
      · rw [List.mem_singleton.mp hb]
        obtain ⟨o, ho, _⟩ := hlc
        exact Nat.lt_succ_of_lt (Heap.lt_size ho)
    case tests =>
      intro C i v s₃ m₃ E' hC hP hns hm hk htk
      exact wpAny_tests_nil ⟨rfl, keeps_refl _⟩
    case elt =>
      intro C i v s₃ m₃ E' hC hP _ hns hm hk htk
      obtain ⟨hiv, hv⟩ := hP
      obtain ⟨n, t, rfl⟩ : ∃ n t, v = .int n t := by
        obtain ⟨t, ht⟩ := ints_get hi2 (k := i) (by rw [← ints_len hi2]; simpa using hiv)
        have hv' : us2[i]? = some v := by simpa using hv
        rw [ht] at hv'; injection hv' with hv'; exact ⟨_, _, hv'.symm⟩
      iterate 3 walk1
      refine wpAny_Name (wpAny_loadName_local rfl rfl hns hm ?_)
      iterate 3 walk1
      refine wpAny_newList ?_
      exact ⟨⟨_, _, rfl, Heap.get?_none_of_le (Nat.le_refl _), ⟨_, Heap.get?_push_size _ rfl, rfl, _, rfl⟩, n, t, s₃.toks + 1, rfl, by rw [fm2]⟩, _, _, rfl, fun b o e => Heap.get?_push_of_some _ e⟩
    case fin =>
      intro D h' tk' ys vs' hD hl hpl hlen' hj' hPa hw hne hk
      have k9 : ∀ b o, h2.get? b = some o → h'.get? b = some o := fun b o e => push_back hk b o e
      have up : ∀ D, (h2.push { cls := .type "list_iterator", data := .fields #[.ref D2, rawInt 0] }).get? D = none → h2.get? D = none := fun D hD => by
        cases e : h2.get? D with
        | none => rfl
        | some o => rw [Heap.get?_push_of_some _ e] at hD; cases hD
      have hD' := up D hD
      have hvs : vs' = us2 := by
        refine List.ext_getElem? fun j => ?_
        cases e : vs'[j]? with
        | some v =>
          have := (hj' j v e).2
          exact (by simpa using this : us2[j]? = some v).symm
        | none =>
          have h1 := List.getElem?_eq_none_iff.mp e
          rw [hlen', List.size_toArray] at h1
          exact (List.getElem?_eq_none_iff.mpr h1).symm
      rw [List.filter_eq_self.mpr fun _ _ => rfl, hvs] at hPa
      obtain ⟨ta, hta, htl, htn, hat, hno⟩ := things_of hi2 hPa hw
      obtain ⟨ep, hD2⟩ := hpl
      have hth : ThOk s₁.heap L h' cs ta := ⟨htl.trans hcl, htn, fun a ha => by
        have hlt := List.idxOf_lt_length_of_mem ha
        have := hat (ta.idxOf a) a (by rw [List.getElem?_eq_getElem hlt, List.getElem_idxOf])
        exact this, fun a ha => ⟨S.off (up a (hno a ha)), S.none0 (up a (hno a ha))⟩⟩
      have hys : ys = refs ta := by
        unfold refs; rw [← hta]
      rw [hys] at hD2
      have O2 := (O.keep fun b o _ e => k9 b o e).cons hD2 (S.off hD') (S.none0 hD')
      refine LSt.storeC (k := 6) (S.heapS k9) rfl rfl rfl (by decide) (by decide) (fun h3 S2 k2 => ?_)
      exact ⟨by first | exact rfl | exact True.intro, D, ta, ep, S2, hth.keep k2, O2.keep k2⟩
  try clear S
  rintro _ s8 ⟨rfl, D6, ta, ep6, S8, hth8, O8⟩
  dsimp only
  refine wpAny_execs_cons (wpAny_mono (Q := fun f s' => f = .next ∧ ∃ df, LSt s₁ L (lloc (some (.int od ot)) (some (.ref DR)) x3 x4 (some (.ref df)) none none none none none none none) [none, some (.ref sc), some (.ref D1), some (.ref D2), some (.ref D3), x5, some (.ref D6), none, none] s' ∧
    (∀ b o, Off L b → s8.heap.get? b = some o → s'.heap.get? b = some o) ∧ s8.heap.get? df = none ∧ s'.heap.get? df = some (listOf (refs []) 0)) (E := fun _ _ => False) ?s9 ?k9 (fun _ _ z => z.elim))
  case s9 =>
    have F := S8.fr
    have N : News s₁.heap L s8.heap [] := News.nil
    have S := S8
    have hq : ∀ b o, s8.heap.get? b = some o → s8.heap.get? b = some o := fun _ _ e => e
    obtain ⟨h1, g1, dr1, tk1, os1⟩ := s8
    dsimp only at F N hq
    iterate 3 walk1
    refine newL (fun df h3 hdf k3 gdf => ?_)
    refine LSt.storeN (S.heapS k3) rfl rfl (fun h6 tk6 S6 k6 => ?_)
    exact ⟨by first | exact rfl | exact True.intro, df, S6, fun b o hb e => k6 b o hb (k3 b o e), hdf, k6 _ _ (S.off hdf) gdf⟩
  try clear S
  rintro _ s' ⟨rfl, df, S, K8, hdf, gdf⟩
  dsimp only
  refine wpAny_execs_cons (wpAny_mono (Q := fun f s' => f = .next ∧ ∃ fl c x6, LSt s₁ L (lloc (some (.int od ot)) (some (.ref DR)) x3 x4 (some (.ref df)) x6 none none none none none none) [none, some (.ref sc), some (.ref D1), some (.ref D2), some (.ref D3), x5, some (.ref D6), none, none] s' ∧
    (∀ b o, Off L b → s8.heap.get? b = some o → s'.heap.get? b = some o) ∧ Fs s8.heap s'.heap fl ∧ df ∉ adrs fl ∧ s'.heap.get? df = some (listOf (refs (fl.map Form.fa)) c) ∧ fl.map Form.toDat = (List.range 7).map (dat0 cs ta)) (E := fun _ _ => False) ?s10 ?k10 (fun _ _ z => z.elim))
  case s10 =>
    have F := S.fr
    have N : News s₁.heap L s'.heap [] := News.nil
    obtain ⟨h1, g1, dr1, tk1, os1⟩ := s'
    dsimp only at F N gdf K8
    refine wpAny_For ?_
    iterate 7 walk1
    rename_i h3 tk3 _ _ _ hRg F3 N3 k3
    dsimp only at k3 hRg ⊢
    refine wpAny_pyIter_range hRg (by decide) ?_
    dsimp only
    have S3 : LSt s₁ L (lloc (some (.int od ot)) (some (.ref DR)) x3 x4 (some (.ref df)) none none none none none none none) [none, some (.ref sc), some (.ref D1), some (.ref D2), some (.ref D3), x5, some (.ref D6), none, none] ⟨h3, g1, dr1, tk3, os1⟩ := S.heapS k3
    have hdfo : Off L df := S8.off hdf
    have hI0 : Off L h3.objs.size := S3.offS
    have hI1 : s₁.heap.get? h3.objs.size = none := S3.noneS
    have hI8 : s8.heap.get? h3.objs.size = none := by
      cases e : s8.heap.get? h3.objs.size with
      | none => rfl
      | some o => exact absurd (Heap.lt_size (k3 _ _ (K8 _ _ hI0 e))) (Nat.lt_irrefl _)
    have hdI : df ≠ h3.objs.size := Nat.ne_of_lt (Heap.lt_size (k3 _ _ gdf))
    refine for_walks2 (Walks.range hBh h3.objs.size 0 1 7) (fun j s' => ∃ fl c x6, LSt s₁ L (lloc (some (.int od ot)) (some (.ref DR)) x3 x4 (some (.ref df)) x6 none none none none none none) [none, some (.ref sc), some (.ref D1), some (.ref D2), some (.ref D3), x5, some (.ref D6), none, none] s' ∧
      (∀ b o, Off L b → s8.heap.get? b = some o → s'.heap.get? b = some o) ∧ Fs s8.heap s'.heap fl ∧ df ∉ adrs fl ∧ h3.objs.size ∉ adrs fl ∧ s'.heap.get? df = some (listOf (refs (fl.map Form.fa)) c) ∧ fl.map Form.toDat = (List.range j).map (dat0 cs ta)) ?live ?hJ ?step ?fin ?h0 ?st
    case live =>
      intro j h st b hb
      rw [List.mem_singleton.mp hb]
      exact ⟨_, st⟩
    case hJ =>
      rintro j s1 h' tk ⟨fl, c, x6, S, K, X, hd, hi, gd, hf⟩ hk
      refine ⟨fl, c, x6, S.keepI (s' := ⟨h', _, _, _, _⟩) hI0 hI1 hk (.eqs rfl rfl rfl), fun b o hb e => hk b o (fun z => ?_) (K b o hb e), X.keep fun b o hb e => hk b o (fun z => hi (z ▸ hb)) e, hd, hi, hk _ _ hdI gd, hf⟩
      subst z; rw [hI8] at e; cases e
    case st => exact iter_start (by decide)
    case h0 => exact ⟨[], 0, none, S3.pushS, fun b o hb e => Heap.get?_push_of_some _ (k3 _ _ (K8 b o hb e)), ⟨fun _ h => (nomatch h), List.nodup_nil, fun _ h => (nomatch h)⟩, fun h => (nomatch h), fun h => (nomatch h), Heap.get?_push_of_some _ (k3 _ _ gdf), rfl⟩
    case fin =>
      rintro ⟨hp, g, dr, tk, os⟩ ⟨fl, c, x6, S, K, X, hd, hi, gd, hf⟩
      refine wpAny_execs_nil ?_
      exact ⟨rfl, fl, c, x6, S, K, X, hd, gd, hf⟩
    case step =>
      clear S3 F3 N3 K8 gdf S
      rintro j v ⟨hp, g, dr, tk, os⟩ hj hv ⟨fl, c, x6, S, K, X, hd, hi, gd, hf⟩ hlv
      obtain ⟨tv, rfl⟩ := hv
      dsimp only at K X gd hlv
      refine wpAny_assign_Name (LSt.storeN S rfl rfl (fun h2 tk2 S2 k2 => ?_))
      refine hide (fun PP hPP => ?_)
      have K2 : ∀ b o, Off L b → s8.heap.get? b = some o → h2.get? b = some o := fun b o hb e => k2 b o hb (K b o hb e)
      have hoff : ∀ a ∈ adrs fl, Off L a := fun a ha => S8.off (X.new a ha)
      have X2 : Fs s8.heap h2 fl := X.keep fun b o hb e => k2 b o (hoff b hb) e
      have gd2 := k2 _ _ hdfo gd
      have up8 : ∀ a, h2.get? a = none → s8.heap.get? a = none := fun a ha => by
        cases e : s8.heap.get? a with
        | none => rfl
        | some o => rw [K2 a o (S2.off ha) e] at ha; cases ha
      have close : ∀ (hX h' : Heap) (tk' : Nat) (fa ca oa : Addr) (m' : Str → Option Value), (∀ b o, h2.get? b = some o → hX.get? b = some o) → FormAt hX ⟨dat0 cs ta j, fa, ca, oa⟩ → h2.get? fa = none → h2.get? ca = none → h2.get? oa = none → fa ≠ ca → fa ≠ oa → ca ≠ oa →
          Fr s₁.heap L h' m' → m' = Mine.mk (setL (lloc (some (.int od ot)) (some (.ref DR)) x3 x4 (some (.ref df)) x6 none none none none none none) "place" (.int (0 + (j : Int) * 1) tv)) → News s₁.heap L h' ((df, listOf ((refs (fl.map Form.fa)).push (.ref fa)) (c + 1)) :: restL s₁.heap hX [L, df]) →
          (∀ b ∈ [h3.objs.size], ∀ o, hp.get? b = some o → h'.get? b = some o) ∧ ∃ fl c x6, LSt s₁ L (lloc (some (.int od ot)) (some (.ref DR)) x3 x4 (some (.ref df)) x6 none none none none none none) [none, some (.ref sc), some (.ref D1), some (.ref D2), some (.ref D3), x5, some (.ref D6), none, none] ⟨h', g, dr, tk', os⟩ ∧
            (∀ b o, Off L b → s8.heap.get? b = some o → h'.get? b = some o) ∧ Fs s8.heap h' fl ∧ df ∉ adrs fl ∧ h3.objs.size ∉ adrs fl ∧ h'.get? df = some (listOf (refs (fl.map Form.fa)) c) ∧ fl.map Form.toDat = (List.range (j + 1)).map (dat0 cs ta) := by
        intro hX h' tk' fa ca oa m' kX hFm n1 n2 n3 e1 e2 e3 F' hm' N'
        have SX := S2.heapS (t' := tk') kX
        have kb := restL_back SX.fr.keep F'.keep (news_tail N')
        have no2 : ∀ b, Off L b → b ≠ df → b ∉ [L, df] := fun b h1 h2 hm => by
          rcases List.mem_cons.mp hm with e | e
          · exact h1 0 (by decide) e
          · exact h2 (List.mem_singleton.mp e)
        have ne2 : ∀ a, h2.get? a = none → a ≠ df := fun a ha e => by rw [e, gd2] at ha; cases ha
        have nI : ∀ a, h2.get? a = none → a ≠ h3.objs.size := fun a ha e => by
          obtain ⟨o, ho⟩ := hlv _ (.head _)
          rw [e, k2 _ _ hI0 ho] at ha; cases ha
        refine ⟨fun b hb o e => ?_, fl ++ [⟨dat0 cs ta j, fa, ca, oa⟩], c + 1, _, (SX.back (s' := ⟨h', g, dr, tk', os⟩) F' hm' hdfo (fun b o hb e => kb b o hb e) (.eqs rfl rfl rfl)), fun b o hb e => ?_, ?_, ?_, ?_, ?_, ?_⟩
        · rw [List.mem_singleton.mp hb] at e ⊢
          exact kb _ _ (no2 _ hI0 (Ne.symm hdI)) (kX _ _ (k2 _ _ hI0 e))
        · refine kb _ _ (no2 b hb (fun z => ?_)) (kX _ _ (K2 b o hb e))
          rw [z, hdf] at e; cases e
        · have kf : ∀ a, h2.get? a = none → ∀ o, hX.get? a = some o → h'.get? a = some o := fun a ha o e => kb _ _ (no2 a (S2.off ha) (ne2 a ha)) e
          exact ((X2.keep fun b o hb e => kb _ _ (no2 b (hoff b hb) (fun z => hd (z ▸ hb))) (kX _ _ e))).snoc (hFm.keep (kf _ n1) (kf _ n2) (kf _ n3)) (X2.not n1) (X2.not n2) (X2.not n3) e1 e2 e3 (up8 _ n1) (up8 _ n2) (up8 _ n3)
        · rw [adrs_app]
          intro hm
          rcases List.mem_append.mp hm with hm | hm
          · exact hd hm
          · have hm' : df ∈ [fa, ca, oa] := hm
            simp only [List.mem_cons, List.not_mem_nil, or_false] at hm'
            rcases hm' with e | e | e
            · exact ne2 _ n1 e.symm
            · exact ne2 _ n2 e.symm
            · exact ne2 _ n3 e.symm
        · rw [adrs_app]
          intro hm
          rcases List.mem_append.mp hm with hm | hm
          · exact hi hm
          · have hm' : h3.objs.size ∈ [fa, ca, oa] := hm
            simp only [List.mem_cons, List.not_mem_nil, or_false] at hm'
            rcases hm' with e | e | e
            · exact nI _ n1 e.symm
            · exact nI _ n2 e.symm
            · exact nI _ n3 e.symm
        · have z := (N' _ (.head _)).1
          have e9 : (refs (fl.map Form.fa)).push (.ref fa) = refs ((fl ++ [(⟨dat0 cs ta j, fa, ca, oa⟩ : Form)]).map Form.fa) := by simp [refs]
          rw [e9] at z
          exact z
        · rw [List.map_append, hf, List.range_succ, List.map_append]; rfl
      have F := S2.fr
      have mkN : ∀ h : Heap, h.get? df = some (listOf (refs (fl.map Form.fa)) c) → News s₁.heap L h ((df, listOf (refs (fl.map Form.fa)) c) :: restL s₁.heap h [L, df]) := fun h e => news_cons e (hdfo 0 (by decide)) (S8.none0 hdf) (restL_news (.head _))
      have N := mkN h2 gd2
      dsimp only at F
      obtain ⟨tc, htc⟩ := ints_get hi2 (k := j) (by omega)
      have e0 : (0 + (j : Int) * 1).toNat = j := by omega
      have eA : (0 + (j : Int) * 1) = (j : Int) := by omega
      have hfl : fl.length = j := by have := congrArg List.length hf; simpa using this
      have hlc : h2.IsList D2 us2.toArray := ⟨_, K2 _ _ (O8 _ (.tail _ (.tail _ (.tail _ (.tail _ (.tail _ (.head _))))))).2.1 (O8 _ (.tail _ (.tail _ (.tail _ (.tail _ (.tail _ (.head _))))))).1, rfl, _, rfl⟩
      have hlt : h2.get? D6 = some (listOf (refs ta) ep6) := K2 _ _ (O8 _ (.head _)).2.1 (O8 _ (.head _)).1
      have htj : (refs ta).toList[j]? = some (.ref (ta.getD j 0)) := by
        have hjl : j < ta.length := by rw [hth8.len]; exact hj
        simp [refs, List.getElem?_eq_getElem hjl]
      refine wpAny_execs_cons (wpAny_If ?_)
      iterate 3 walk1
      refine wpAny_Name (wpAny_loadName_cell rfl rfl rfl (S2.cs.at_ 3 (by decide) (by decide)) ?_)
      iterate 1 walk1
      refine item_list hlc (by omega) (by omega) (by rw [e0]; exact htc) ?_
      iterate 5 walk1
      rw [fm4]
      by_cases hb : cs.getD j 0 % 4 < 2
      · rw [if_pos (show decide (cs.getD j 0 % 4 < 2) = true from decide_eq_true hb)]
        iterate 19 walk1
        refine newL (fun ca hA hca kA gA => ?_)
        have F := fr_off S2.fr (fun b o e _ => kA b o e)
        have N := mkN hA (kA _ _ gd2)
        dsimp only at F hca kA
        iterate 4 walk1
        refine wpAny_Name (wpAny_loadName_cell rfl rfl rfl ((S2.cs.at_ 6 (by decide) (by decide)).keeps kA) ?_)
        iterate 1 walk1
        refine item_list (vs := (refs ta).toList) ⟨_, kA _ _ hlt, rfl, _, rfl⟩ (by omega) (by omega) (by rw [e0]; exact htj) ?_
        iterate 1 walk1
        refine newL (fun oa hB hoa kB gB => ?_)
        have F := fr_off F (fun b o e _ => kB b o e)
        have N := mkN hB (kB _ _ (kA _ _ gd2))
        dsimp only at F hoa kB
        iterate 1 walk1
        refine newL (fun fa hC hfa kC gC => ?_)
        have F := fr_off F (fun b o e _ => kC b o e)
        have N := mkN hC (kC _ _ (kB _ _ (kA _ _ gd2)))
        dsimp only at F hfa kC
        have nn : ∀ {h h' : Heap} {a : Addr}, (∀ b o, h.get? b = some o → h'.get? b = some o) → h'.get? a = none → h.get? a = none := fun {h h' a} k e => by
          cases e' : h.get? a with
          | none => rfl
          | some o => rw [k _ _ e'] at e; cases e
        iterate 1 walk1
        refine append_K F N (.head (restL_ne (.tail _ (.head _)))) (fun h10 F N => ?_) (by rw [refs_size, List.length_map, hfl, sizeLine_eq]; omega)
        iterate 2 refine wpAny_execs_nil ?_
        refine hPP _ _ ?_
        refine close hC h10 _ fa ca oa _ (fun b o e => kC b o (kB b o (kA b o e))) ?_ (nn kA (nn kB hfa)) hca (nn kA hoa) (fun e => by rw [e, kB _ _ gA] at hfa; cases hfa) (fun e => by rw [e, gB] at hfa; cases hfa) (fun e => by rw [← e, gA] at hoa; cases hoa) F rfl N
        rw [eA] at gC
        rw [show dat0 cs ta j = ⟨j, j + 1, [], [ta.getD j 0]⟩ from if_pos hb]
        exact ⟨⟨_, _, 0, gC⟩, ⟨0, kC _ _ (kB _ _ gA)⟩, ⟨0, kC _ _ gB⟩⟩
      · rw [if_neg (show ¬ decide (cs.getD j 0 % 4 < 2) = true by simpa using hb)]
        iterate 20 walk1
        refine wpAny_Name (wpAny_loadName_cell rfl rfl rfl (S2.cs.at_ 6 (by decide) (by decide)) ?_)
        iterate 1 walk1
        refine item_list (vs := (refs ta).toList) ⟨_, hlt, rfl, _, rfl⟩ (by omega) (by omega) (by rw [e0]; exact htj) ?_
        iterate 1 walk1
        refine newL (fun ca hA hca kA gA => ?_)
        have F := fr_off S2.fr (fun b o e _ => kA b o e)
        have N := mkN hA (kA _ _ gd2)
        dsimp only at F hca kA
        iterate 3 walk1
        refine newL (fun oa hB hoa kB gB => ?_)
        have F := fr_off F (fun b o e _ => kB b o e)
        have N := mkN hB (kB _ _ (kA _ _ gd2))
        dsimp only at F hoa kB
        iterate 1 walk1
        refine newL (fun fa hC hfa kC gC => ?_)
        have F := fr_off F (fun b o e _ => kC b o e)
        have N := mkN hC (kC _ _ (kB _ _ (kA _ _ gd2)))
        dsimp only at F hfa kC
        have nn : ∀ {h h' : Heap} {a : Addr}, (∀ b o, h.get? b = some o → h'.get? b = some o) → h'.get? a = none → h.get? a = none := fun {h h' a} k e => by
          cases e' : h.get? a with
          | none => rfl
          | some o => rw [k _ _ e'] at e; cases e
        iterate 1 walk1
        refine append_K F N (.head (restL_ne (.tail _ (.head _)))) (fun h10 F N => ?_) (by rw [refs_size, List.length_map, hfl, sizeLine_eq]; omega)
        iterate 2 refine wpAny_execs_nil ?_
        refine hPP _ _ ?_
        refine close hC h10 _ fa ca oa _ (fun b o e => kC b o (kB b o (kA b o e))) ?_ (nn kA (nn kB hfa)) hca (nn kA hoa) (fun e => by rw [e, kB _ _ gA] at hfa; cases hfa) (fun e => by rw [e, gB] at hfa; cases hfa) (fun e => by rw [← e, gA] at hoa; cases hoa) F rfl N
        rw [eA] at gC
        rw [show dat0 cs ta j = ⟨j, j + 1, [ta.getD j 0], []⟩ from if_neg hb]
        exact ⟨⟨_, _, 0, gC⟩, ⟨0, kC _ _ (kB _ _ gA)⟩, ⟨0, kC _ _ gB⟩⟩
  try clear S K8 gdf
  rintro _ s' ⟨rfl, fl, c, x6, S, K8, hFs, hdf', gdf, hfl⟩
  dsimp only
  have hmsl : (msOf cs).length = 7 := mates_len cs
  have hS0 := seg0 (ta := ta) hcl hcr
  rw [← hfl] at hS0
  refine wpAny_execs_cons (wpAny_mono (Q := fun f s' => f = .next ∧ ∃ loc v, LSt s₁ L loc v s') (E := fun _ _ => False) ?s11 ?k11 (fun _ _ z => z.elim))
  case s11 =>
    have F := S.fr
    have N : News s₁.heap L s'.heap [] := News.nil
    obtain ⟨h1, g1, dr1, tk1, os1⟩ := s'
    dsimp only at F N gdf K8 hFs
    refine wpAny_For ?_
    iterate 13 walk1
    rename_i h3 tk3 _ _ _ hRg F3 N3 k3
    dsimp only at k3 hRg ⊢
    refine wpAny_pyIter_range hRg (by decide) ?_
    dsimp only
    have S3 : LSt s₁ L (lloc (some (.int od ot)) (some (.ref DR)) x3 x4 (some (.ref df)) x6 none none none none none none) [none, some (.ref sc), some (.ref D1), some (.ref D2), some (.ref D3), x5, some (.ref D6), none, none] ⟨h3, g1, dr1, tk3, os1⟩ := S.heapS k3
    have hdfo : Off L df := S8.off hdf
    have hI0 : Off L h3.objs.size := S3.offS
    have hI1 : s₁.heap.get? h3.objs.size = none := S3.noneS
    have hI8 : s8.heap.get? h3.objs.size = none := by
      cases e : s8.heap.get? h3.objs.size with
      | none => rfl
      | some o => exact absurd (Heap.lt_size (k3 _ _ (K8 _ _ hI0 e))) (Nat.lt_irrefl _)
    have hdI : df ≠ h3.objs.size := Nat.ne_of_lt (Heap.lt_size (k3 _ _ gdf))
    have hIa : h3.objs.size ∉ adrs fl := fun hm => by
      obtain ⟨o, ho⟩ := hFs.live _ hm
      exact absurd (Heap.lt_size (k3 _ _ ho)) (Nat.lt_irrefl _)
    refine for_walks2 (Walks.range hBh h3.objs.size 6 (-1) 6) (fun j s' => ∃ od ot df fl c x6 y1 y2 y3 y4 y5 y6 y7 y8, LSt s₁ L (lloc (some (.int od ot)) (some (.ref DR)) x3 x4 (some (.ref df)) x6 y1 y2 y3 y4 y5 y6) [none, some (.ref sc), some (.ref D1), some (.ref D2), some (.ref D3), x5, some (.ref D6), y7, y8] s' ∧
      (∀ b o, Off L b → s8.heap.get? b = some o → s'.heap.get? b = some o) ∧ Fs s8.heap s'.heap fl ∧ df ∉ adrs fl ∧ h3.objs.size ∉ adrs fl ∧ s8.heap.get? df = none ∧ df ≠ h3.objs.size ∧ s'.heap.get? df = some (listOf (refs (fl.map Form.fa)) c) ∧ 0 ≤ od ∧ SegOk cs (msOf cs) ta (7 - j) (fl.map Form.toDat)) ?live ?hJ ?step ?fin ?h0 ?st
    case live =>
      intro j h st b hb
      rw [List.mem_singleton.mp hb]
      exact ⟨_, st⟩
    case hJ =>
      rintro j s1 h' tk ⟨od, ot, df, fl, c, x6, y1, y2, y3, y4, y5, y6, y7, y8, S, K, X, hd, hi, hd8, hdI, gd, ho, hf⟩ hk
      refine ⟨od, ot, df, fl, c, x6, y1, y2, y3, y4, y5, y6, y7, y8, S.keepI (s' := ⟨h', _, _, _, _⟩) hI0 hI1 hk (.eqs rfl rfl rfl), fun b o hb e => hk b o (fun z => ?_) (K b o hb e), X.keep fun b o hb e => hk b o (fun z => hi (z ▸ hb)) e, hd, hi, hd8, hdI, hk _ _ hdI gd, ho, hf⟩
      subst z; rw [hI8] at e; cases e
    case st => exact iter_down
    case h0 => exact ⟨od, ot, df, fl, c, x6, none, none, none, none, none, none, none, none, S3.pushS, fun b o hb e => Heap.get?_push_of_some _ (k3 _ _ (K8 b o hb e)), hFs.keep fun b o _ e => Heap.get?_push_of_some _ (k3 _ _ e), hdf', hIa, hdf, hdI, Heap.get?_push_of_some _ (k3 _ _ gdf), ho0, hS0⟩
    case fin =>
      rintro ⟨hp, g, dr, tk, os⟩ ⟨od, ot, df, fl, c, x6, y1, y2, y3, y4, y5, y6, y7, y8, S, K, X, hd, hi, hd8, hdI, gd, ho, hf⟩
      refine wpAny_execs_nil ?_
      exact ⟨rfl, _, _, S⟩
    case step =>
      clear S3 F3 N3 K8 gdf S hFs hIa hS0 hfl
      rintro j v ⟨hp, g, dr, tk, os⟩ hj hv ⟨od, ot, df, fl, c, x6, y1, y2, y3, y4, y5, y6, y7, y8, S, K, X, hd, hi, hd8, hdI, gd, ho, hf⟩ hlv
      obtain ⟨tv, rfl⟩ := hv
      dsimp only at K X gd hlv
      refine wpAny_assign_Name (LSt.storeN S rfl rfl (fun h2 tk2 S2 k2 => ?_))
      obtain ⟨z, hz⟩ : ∃ z : Nat, z = 6 - j := ⟨_, rfl⟩
      have eA : (6 + (j : Int) * (-1)) = (z : Int) := by omega
      have hz1 : 1 ≤ z := by omega
      have hzj : 7 - j = z + 1 := by omega
      have hzj' : 7 - (j + 1) = z := by omega
      rw [eA] at S2
      rw [hzj] at hf
      rw [hzj']
      refine hide (fun PP hPP => ?_)
      have F := S2.fr
      have N : News s₁.heap L h2 [] := News.nil
      dsimp only at F
      iterate 6 walk1
      obtain ⟨sp, hsp, hspz⟩ : ∃ sp : Nat, od.fmod z = sp ∧ sp < z := by
        have h1 : 0 ≤ od.fmod z := Int.fmod_nonneg_of_pos _ (by omega)
        have h2 : od.fmod z < z := Int.fmod_lt_of_pos _ (by omega)
        exact ⟨(od.fmod z).toNat, by omega, by omega⟩
      have hdiv : 0 ≤ od.fdiv z := Int.fdiv_nonneg ho (by omega)
      rw [hsp]
      refine LSt.storeN (S2.heapS fun _ _ e => e) rfl rfl (fun h4 tk4 S4 k4 => ?_)
      have F := S4.fr
      have N : News s₁.heap L h4 [] := News.nil
      dsimp only at F k4 ⊢
      iterate 6 walk1
      refine LSt.storeN (S4.heapS fun _ _ e => e) rfl rfl (fun h5 tk5 S5 k5 => ?_)
      have F := S5.fr
      have N : News s₁.heap L h5 [] := News.nil
      dsimp only at F k5 ⊢
      have kk5 : ∀ b o, Off L b → hp.get? b = some o → h5.get? b = some o := fun b o hb e => k5 b o hb (k4 b o hb (k2 b o hb e))
      have hflen : fl.length = z + 1 := by have := hf.len; simpa using this
      obtain ⟨FA, f1, f2, FC, hfl, hAl, hg1, hg2⟩ := split3 (l := fl) (n := sp) (by omega)
      have hdo := S8.off hd8
      have hgf : h5.IsList df ((fl.map Form.fa).map Value.ref).toArray := ⟨_, kk5 _ _ hdo gd, rfl, _, rfl⟩
      iterate 5 walk1
      refine item_list hgf (by omega) (by omega) hg1 ?_
      refine LSt.storeC (k := 7) (S5.heapS fun _ _ e => e) rfl rfl rfl (by decide) (by decide) (fun h6 S6 k6 => ?_)
      have F := S6.fr
      have N : News s₁.heap L h6 [] := News.nil
      dsimp only at F k6 ⊢
      iterate 8 walk1
      refine item_list (k := (sp : Int) + 1) (hgf.at fun o e => k6 _ _ hdo e) (by omega) (by omega) (by rw [show ((sp : Int) + 1).toNat = sp + 1 by omega]; exact hg2) ?_
      refine LSt.storeC (k := 8) (S6.heapS fun _ _ e => e) rfl rfl rfl (by decide) (by decide) (fun h7 S7 k7 => ?_)
      dsimp only at k7 ⊢
      have kk7 : ∀ b o, Off L b → hp.get? b = some o → h7.get? b = some o := fun b o hb e => k7 b o hb (k6 b o hb (kk5 b o hb e))
      clear S5 S6 S4 S2 k2 k4 k5 k6 k7 kk5 hgf F N
      obtain ⟨ot', st', S7⟩ : ∃ ot' st', LSt s₁ L (lloc (some (.int (od.fdiv z) ot')) (some (.ref DR)) x3 x4 (some (.ref df)) x6 (some (.int z tv)) (some (.int sp st')) y3 y4 y5 y6) [none, some (.ref sc), some (.ref D1), some (.ref D2), some (.ref D3), x5, some (.ref D6), some (.ref f1.fa), some (.ref f2.fa)] ⟨h7, g, dr, tk5 + 1 + 1, os⟩ := ⟨_, _, S7.heapS fun _ _ e => e⟩
      have hm1 : f1 ∈ fl := by rw [hfl]; exact List.mem_append.mpr (.inr (.head _))
      have hm2 : f2 ∈ fl := by rw [hfl]; exact List.mem_append.mpr (.inr (.tail _ (.head _)))
      have hoff : ∀ a ∈ adrs fl, Off L a := fun a ha => S8.off (X.new a ha)
      have hn0 : ∀ a ∈ adrs fl, s₁.heap.get? a = none := fun a ha => S8.none0 (X.new a ha)
      obtain ⟨q1, q2, q3⟩ := mem_adrs hm1
      obtain ⟨r1, r2, r3⟩ := mem_adrs hm2
      obtain ⟨nd6, ndAC, nAC⟩ := adrs_split (hfl ▸ X.nd)
      have ok1 : DatOk cs (msOf cs) ta f1.toDat := hf.ok _ (List.mem_map_of_mem hm1)
      have ok2 : DatOk cs (msOf cs) ta f2.toDat := hf.ok _ (List.mem_map_of_mem hm2)
      have h12 : f1.hi = f2.lo := hf.chain (FA.map Form.toDat) f1.toDat f2.toDat (FC.map Form.toDat) (by rw [hfl, List.map_append]; rfl)
      have hmg := merge_ok hcl hcr hth8.len hth8.nd ok1 ok2 h12
      obtain ⟨r, hr⟩ : ∃ r, r = diffF (kap cs ta) f1.op.reverse f2.cl [] := ⟨_, rfl⟩
      rw [← hr] at hmg
      have hthp : ThOk s₁.heap L hp cs ta := hth8.keep K
      have hta8 : ∀ a ∈ ta, ∃ o, s8.heap.get? a = some o := fun a ha => let ⟨_, o, ho, _⟩ := hth8.at_ a ha; ⟨o, ho⟩
      obtain ⟨⟨t1, u1, c1, ga1⟩, ⟨c2, ga2⟩, ⟨c3, ga3⟩⟩ := X.at_ f1 hm1
      obtain ⟨⟨t2, u2, c4, gb1⟩, ⟨c5, gb2⟩, ⟨c6, gb3⟩⟩ := X.at_ f2 hm2
      obtain ⟨⟨m1, m2, m3, m4, m5⟩, m6, m7, m8, m9, m10⟩ := six nd6
      obtain ⟨eo, hfr, hko, hfo⟩ := hBf
      have hve := mg_none_of KX T.g (show nsIn (Mine.hd.heap_39 w.params) mainGlobals "ValueError" = some none by k_is)
      refine wpAny_execs_cons (wpAny_mono (Q := fun f s' => f = .next ∧ ∃ mis tup c7 c8 c9, LSt s₁ L (lloc (some (.int (od.fdiv z) ot')) (some (.ref DR)) x3 x4 (some (.ref df)) x6 (some (.int z tv)) (some (.int sp st')) (some (.ref tup)) y4 y5 y6) [none, some (.ref sc), some (.ref D1), some (.ref D2), some (.ref D3), x5, some (.ref D6), some (.ref f1.fa), some (.ref f2.fa)] s' ∧
        (∀ b o, Off L b → b ≠ f1.oa → b ≠ f2.ca → hp.get? b = some o → s'.heap.get? b = some o) ∧ s'.heap.get? f1.oa = some (listOf (refs []) c7) ∧ s'.heap.get? f2.ca = some (listOf (refs r.2) c8) ∧ s'.heap.get? mis = some (listOf (refs r.1) c9) ∧
        h7.get? mis = none ∧ h7.get? tup = none ∧ IsTup s'.heap tup #[.ref mis, .ref f2.ca]) (E := fun _ _ => False) ?b5 ?c5 (fun _ _ z => z.elim))
      case b5 =>
        have F := S7.fr
        have N : News s₁.heap L h7 [] := News.nil
        dsimp only at F
        iterate 6 walk1
        refine wpAny_Name (wpAny_loadName_cell rfl rfl rfl (S7.cs.at_ 7 (by decide) (by decide)) ?_)
        iterate 1 walk1
        refine item_list (vs := [Value.int f1.lo t1, .int f1.hi u1, .ref f1.ca, .ref f1.oa]) ⟨_, kk7 _ _ (hoff _ q1) ga1, rfl, _, rfl⟩ (by decide) (by decide) rfl ?_
        iterate 2 walk1
        refine wpAny_Name (wpAny_loadName_cell rfl rfl rfl (S7.cs.at_ 8 (by decide) (by decide)) ?_)
        iterate 1 walk1
        refine item_list (vs := [Value.int f2.lo t2, .int f2.hi u2, .ref f2.ca, .ref f2.oa]) ⟨_, kk7 _ _ (hoff _ r1) gb1, rfl, _, rfl⟩ (by decide) (by decide) rfl ?_
        iterate 1 walk1
        obtain ⟨oL, esL, epL, hoL, hLd, hLk⟩ := S7.fr.ns
        have hth7 : ∀ a ∈ f1.op ++ f2.cl, ThingAt h7 a (kap cs ta a) ∧ a ∉ [f1.oa, f2.ca, L] := by
          intro a ha
          have hin : a ∈ ta := by
            rcases List.mem_append.mp ha with ha | ha
            · exact ok1.mem hth8.len a (List.mem_append.mpr (.inl ha))
            · exact ok2.mem hth8.len a (List.mem_append.mpr (.inr ha))
          obtain ⟨o8, ho8⟩ := hta8 a hin
          refine ⟨(hthp.at_ a hin).keeps fun o e => kk7 a o (hthp.off a hin).1 e, fun hm => ?_⟩
          simp only [List.mem_cons, List.not_mem_nil, or_false] at hm
          rcases hm with e | e | e
          · rw [e, X.new _ q3] at ho8; cases ho8
          · rw [e, X.new _ r2] at ho8; cases ho8
          · exact (hthp.off a hin).1 0 (by decide) e
        refine ⟨KX.keeps S7.fr.keep, wpAny_call (diff_call (κ := kap cs ta) (h₀ := s₁.heap) KX T S7.fr.keep hve hfr hko hfo hoL (fun vs e => by rw [e] at hLd; cases hLd) (Nat.le_of_eq hLe) (kk7 _ _ (hoff _ q3) ga3) (kk7 _ _ (hoff _ r2) gb2) (hn0 _ q3) (hn0 _ r2) m8 (hoff _ q3 0 (by decide)) (hoff _ r2 0 (by decide)) hth7
          (by have := ok1.len; omega) (by have := ok2.len; omega) (by omega) hBh (by omega) fun s2 mis tup d1 d2 d3 gp kp hsl hE hA' hM hm0 ht0 hT => ?_)⟩
        rw [← hr] at hA' hM
        dsimp only at gp kp hsl hm0 ht0
        have S9 := S7.slots (s' := s2) (hoff _ q3) (hoff _ r2) (hn0 _ q3) (hn0 _ r2) hoL kp hsl gp.tk
        refine LSt.storeN S9 rfl rfl (fun h10 tk10 S10 k10 => ?_)
        have nt : ∀ c, Off L c → c ≠ f1.oa → c ≠ f2.ca → c ∉ [f1.oa, f2.ca, L] := fun c h1 h2 h3 hm => by
          simp only [List.mem_cons, List.not_mem_nil, or_false] at hm
          rcases hm with e | e | e
          · exact h2 e
          · exact h3 e
          · exact h1 0 (by decide) e
        refine ⟨by first | exact rfl | exact True.intro, mis, tup, d1, d2, d3, S10, fun b o h1 h2 h3 e => k10 b o h1 (kp b o (nt b h1 h2 h3) (kk7 b o h1 e)), k10 _ _ (hoff _ q3) hE, k10 _ _ (hoff _ r2) hA', k10 _ _ (S7.off hm0) hM, hm0, ht0, ?_⟩
        obtain ⟨o, ho, hT⟩ := hT
        exact ⟨o, k10 _ _ (S7.off ht0) ho, hT⟩
      rintro _ s9 ⟨rfl, mis, tup, c7, c8, c9, S9, KD, gE, gA, gM, hm0, ht0, hT⟩
      dsimp only
      have lp : ∀ a, h7.get? a = none → hp.get? a = none ∨ ¬ Off L a := fun a ha => by
        cases e : hp.get? a with
        | none => exact .inl rfl
        | some o => exact .inr fun hb => by rw [kk7 _ _ hb e] at ha; cases ha
      have hmp : hp.get? mis = none := (lp _ hm0).resolve_right fun h => h (S7.off hm0)
      have htp : hp.get? tup = none := (lp _ ht0).resolve_right fun h => h (S7.off ht0)
      have hmo := S7.off hm0
      have hto := S7.off ht0
      clear lp
      refine wpAny_execs_cons (wpAny_mono (Q := fun f s' => f = .next ∧ LSt s₁ L (lloc (some (.int (od.fdiv z) ot')) (some (.ref DR)) x3 x4 (some (.ref df)) x6 (some (.int z tv)) (some (.int sp st')) (some (.ref tup)) y4 y5 y6) [none, some (.ref sc), some (.ref D1), some (.ref D2), some (.ref D3), x5, some (.ref D6), some (.ref f1.fa), some (.ref f2.fa)] s' ∧
        (∀ b o, s9.heap.get? b = some o → s'.heap.get? b = some o)) (E := fun _ _ => False) ?b6 ?c6 (fun _ _ z => z.elim))
      case b6 =>
        obtain ⟨h9, g9, dr9, tk9, os9⟩ := s9
        have F := S9.fr
        have N : News s₁.heap L h9 [] := News.nil
        dsimp only at F KD gE gA gM hT
        refine wpAny_If ?_
        have hT' : IsTup h9 tup [Value.ref mis, .ref f2.ca].toArray := hT
        have i1 : h9.IsList f1.fa [Value.int f1.lo t1, .int f1.hi u1, .ref f1.ca, .ref f1.oa].toArray := ⟨_, KD _ _ (hoff _ q1) m1 m6 ga1, rfl, _, rfl⟩
        have i2 : h9.IsList f2.fa [Value.int f2.lo t2, .int f2.hi u2, .ref f2.ca, .ref f2.oa].toArray := ⟨_, KD _ _ (hoff _ r1) m3 m9 gb1, rfl, _, rfl⟩
        iterate 8 walk1
        refine item_tuple (j := 0) (x := .ref mis) hT' (by decide) (by decide) rfl rfl ?_
        iterate 2 walk1
        refine wpAny_Name (wpAny_loadName_cell rfl rfl rfl (S9.cs.at_ 8 (by decide) (by decide)) ?_)
        iterate 1 walk1
        refine item_list i2 (by decide) (by decide) rfl ?_
        iterate 1 walk1
        refine newT (fun tq hA htq kA gA' => ?_)
        refine ne_tup_same (hT'.keeps kA) gA' (by omega) ?_
        have F := fr_off S9.fr (fun b o e _ => kA b o e)
        have N : News s₁.heap L hA [] := News.nil
        dsimp only at F kA
        iterate 7 walk1
        refine item_tuple (j := 1) (x := .ref f2.ca) (hT'.keeps kA) (by decide) (by decide) rfl rfl ?_
        iterate 1 walk1
        refine wpAny_Name (wpAny_loadName_cell rfl rfl rfl ((S9.cs.at_ 8 (by decide) (by decide)).keeps kA) ?_)
        iterate 1 walk1
        refine item_list (i2.at fun o e => kA _ _ e) (by decide) (by decide) rfl ?_
        refine wpAny_isNot_ref_self ?_
        iterate 4 walk1
        iterate 1 walk1
        refine wpAny_Name (wpAny_loadName_cell rfl rfl rfl ((S9.cs.at_ 7 (by decide) (by decide)).keeps kA) ?_)
        iterate 1 walk1
        refine item_list (i1.at fun o e => kA _ _ e) (by decide) (by decide) rfl ?_
        iterate 2 walk1
        refine newL (fun nl hB hnl kB gB => ?_)
        try dsimp only at kB
        have kAB : ∀ b o, h9.get? b = some o → hB.get? b = some o := fun b o e => kB b o (kA b o e)
        refine ne_nil ⟨_, kAB _ _ gE, rfl, _, rfl⟩ ⟨_, gB, rfl, _, rfl⟩ (by omega) ?_
        have F := fr_off S9.fr (fun b o e _ => kAB b o e)
        have N : News s₁.heap L hB [] := News.nil
        try dsimp only at F
        iterate 3 walk1
        rw [if_neg (show ¬ false = true by decide)]
        refine wpAny_execs_nil ?_
        exact ⟨by first | exact rfl | exact True.intro, S9.heapS kAB, kAB⟩
      rintro _ s10 ⟨rfl, S10, kc⟩
      dsimp only
      replace KD : ∀ b o, Off L b → b ≠ f1.oa → b ≠ f2.ca → hp.get? b = some o → s10.heap.get? b = some o := fun b o h1 h2 h3 e => kc _ _ (KD b o h1 h2 h3 e)
      replace gE := kc _ _ gE
      replace gA := kc _ _ gA
      replace gM := kc _ _ gM
      replace hT := hT.keeps kc
      clear S9 kc
      have hlo : f1.lo < 7 := by have := ok1.lt; have := ok2.lt; have := ok2.le; omega
      have hlh : f1.lo < f2.hi := by have := ok1.lt; have := ok2.lt; omega
      have hhi : f2.hi ≤ 7 := ok2.le
      have nOwn : ∀ b o, s8.heap.get? b = some o → b ≠ f1.oa ∧ b ≠ f2.ca := fun b o e => ⟨fun z => (by rw [z, X.new _ q3] at e; cases e), fun z => (by rw [z, X.new _ r2] at e; cases e)⟩
      have K10 : ∀ b o, Off L b → s8.heap.get? b = some o → s10.heap.get? b = some o := fun b o hb e => KD b o hb (nOwn b o e).1 (nOwn b o e).2 (K b o hb e)
      have i1 : s10.heap.IsList f1.fa [Value.int f1.lo t1, .int f1.hi u1, .ref f1.ca, .ref f1.oa].toArray := ⟨_, KD _ _ (hoff _ q1) m1 m6 ga1, rfl, _, rfl⟩
      have i2 : s10.heap.IsList f2.fa [Value.int f2.lo t2, .int f2.hi u2, .ref f2.ca, .ref f2.oa].toArray := ⟨_, KD _ _ (hoff _ r1) m3 m9 gb1, rfl, _, rfl⟩
      obtain ⟨m, hm⟩ : ∃ m, m = msOf cs := ⟨_, rfl⟩
      have hmi' := hmi
      rw [show matesF cs (rowsOf cs) = m from hm.symm] at hmi'
      have hlm : s10.heap.IsList D3 um.toList.toArray := by
        have z := hml _ (K10 _ _ (O8 _ (.tail _ (.head _))).2.1 (O8 _ (.tail _ (.head _))).1)
        simpa using z
      have hm7 : m.length = 7 := by rw [hm]; exact hmsl
      refine wpAny_execs_cons (wpAny_mono (Q := fun f s' => f = .next ∧ ∃ D7 us7 e7, LSt s₁ L (lloc (some (.int (od.fdiv z) ot')) (some (.ref DR)) x3 x4 (some (.ref df)) x6 (some (.int z tv)) (some (.int sp st')) (some (.ref tup)) (some (.ref D7)) y5 y6) [none, some (.ref sc), some (.ref D1), some (.ref D2), some (.ref D3), x5, some (.ref D6), some (.ref f1.fa), some (.ref f2.fa)] s' ∧
        (∀ b o, Off L b → s10.heap.get? b = some o → s'.heap.get? b = some o) ∧ s10.heap.get? D7 = none ∧ s'.heap.get? D7 = some (listOf us7.toArray e7) ∧ IntsAre us7 ((lones m f1.lo f2.hi).map fun (p : Nat) => (p : Int))) (E := fun _ _ => False) ?b7 ?c7 (fun _ _ z => z.elim))
      case b7 =>
        obtain ⟨h2, g9, dr9, tk9, os9⟩ := s10
        have F := S10.fr
        have N : News s₁.heap L h2 [] := News.nil
        dsimp only at F
        refine wpAny_Assign_ListComp_free (p := onInt (fun p => loneQ m f1.lo f2.hi p.toNat)) (F := fun v y => y = v) ?hsw rfl (by decide) rfl (by decide) (by decide) rfl rfl ?_
        case hsw => rfl
        iterate 5 walk1
        refine wpAny_Name (wpAny_loadName_cell rfl rfl rfl (S10.cs.at_ 7 (by decide) (by decide)) ?_)
        iterate 1 walk1
        refine item_list i1 (by decide) (by decide) rfl ?_
        iterate 2 walk1
        refine wpAny_Name (wpAny_loadName_cell rfl rfl rfl (S10.cs.at_ 8 (by decide) (by decide)) ?_)
        iterate 1 walk1
        refine item_list i2 (by decide) (by decide) rfl ?_
        iterate 2 walk1
        rename_i h3 tk3 _ _ _ hRg F3 N3 k3
        dsimp only at k3 hRg ⊢
        refine wpAny_pyIter_range hRg (small_of (by omega) (by omega) (by omega) (by omega)) ?_
        have kI : ∀ b o, h2.get? b = some o → ∀ oI, (h3.push oI).get? b = some o := fun b o e oI => Heap.get?_push_of_some _ (k3 b o e)
        have hLI : L ≠ h3.objs.size := Nat.ne_of_lt F3.ns.lt
        refine ⟨_, _, _, f2.hi - f1.lo, _, _, _, rfl, bounded (Walks.range hBh _ f1.lo 1 (f2.hi - f1.lo)), by rw [sizeLine_eq]; omega, iter_start (by omega), push_one, ?hLwr, (S10.fr.ns.keeps fun b o e => kI b o e _), ⟨?tests, ?elt⟩, ?fin⟩
        case hLwr => exact fun hm => hLI (List.mem_singleton.mp hm)
        case tests =>
          intro C i v s₃ m₃ E' hC hP hns hm' hk htk
          obtain ⟨hiv, ti, rfl⟩ := hP
          have kk : ∀ b o, h2.get? b = some o → s₃.heap.get? b = some o := fun b o e => push_back hk b o (k3 b o e)
          refine wpAny_tests_one ?_
          have e0 : ((f1.lo : Int) + (i : Int) * 1).toNat = f1.lo + i := by omega
          obtain ⟨tm, htm⟩ := ints_get hmi' (k := f1.lo + i) (by omega)
          iterate 3 walk1
          refine wpAny_Name (wpAny_loadName_cell rfl rfl rfl ((S10.cs.at_ 7 (by decide) (by decide)).keeps kk) ?_)
          iterate 1 walk1
          refine item_list (i1.at fun o e => kk _ _ e) (by decide) (by decide) rfl ?_
          iterate 2 walk1
          refine wpAny_Name (wpAny_loadName_cell rfl rfl rfl ((S10.cs.at_ 4 (by decide) (by decide)).keeps kk) ?_)
          refine wpAny_Name (wpAny_loadName_local rfl rfl hns hm' ?_)
          refine item_list (hlm.at fun o e => kk _ _ e) (by omega) (by omega) (by rw [e0]; exact htm) ?_
          have hq : ∀ b : Bool, (!b) = onInt (fun p => loneQ m f1.lo f2.hi p.toNat) (Value.int ((f1.lo : Int) + (i : Int) * 1) ti) ↔ b = (decide ((f1.lo : Int) ≤ m.getD (f1.lo + i) 0) && decide (m.getD (f1.lo + i) 0 < (f2.hi : Int))) := fun b => by
            show (!b) = (!(decide ((f1.lo : Int) ≤ m.getD ((f1.lo : Int) + (i : Int) * 1).toNat 0) && decide (m.getD ((f1.lo : Int) + (i : Int) * 1).toNat 0 < (f2.hi : Int)))) ↔ _
            rw [e0]
            exact ⟨fun h => Bool.not_inj h, fun h => by rw [h]⟩
          iterate 2 walk1
          by_cases hq1 : decide ((f1.lo : Int) ≤ m.getD (f1.lo + i) 0) = true
          · rw [if_pos hq1]
            rw [hq1, Bool.true_and] at hq
            iterate 2 walk1
            refine wpAny_Name (wpAny_loadName_cell rfl rfl rfl ((S10.cs.at_ 8 (by decide) (by decide)).keeps kk) ?_)
            iterate 1 walk1
            refine item_list (i2.at fun o e => kk _ _ e) (by decide) (by decide) rfl ?_
            iterate 2 walk1
            exact ⟨(hq _).mpr rfl, _, _, rfl, fun b o e => e⟩
          · rw [if_neg hq1]
            rw [Bool.eq_false_iff.mpr hq1, Bool.false_and] at hq
            exact ⟨(hq _).mpr rfl, _, _, rfl, fun b o e => e⟩
        case elt =>
          intro C i v s₃ m₃ E' hC hP _ hns hm hk htk
          refine wpAny_Name (wpAny_loadName_local rfl rfl hns hm ?_)
          exact ⟨rfl, keeps_refl _⟩
        case fin =>
          intro D h' tk' ys vs' hD hl hpl hlen' hj' hPa hns hk
          obtain ⟨ep, hD2⟩ := hpl
          have k9 : ∀ b o, b ≠ L → h2.get? b = some o → h'.get? b = some o := fun b o hb e => hk b o hb (fun hm => by
            rw [List.mem_singleton.mp hm] at e
            exact Nat.lt_irrefl _ (Heap.lt_size (k3 _ _ e))) (kI b o e _)
          have hDn : h2.get? D = none := by
            cases e : h2.get? D with
            | none => rfl
            | some o => rw [kI _ _ e] at hD; cases hD
          refine ⟨by first | exact rfl | exact True.intro, D, ys.toList, ep, S10.asg hns k9, fun b o hb e => k9 b o (hb 0 (by decide)) e, hDn, hD2, ?_⟩
          exact ints_filter_eq hlen' (fun jj v hv => (hj' jj v hv).2) hPa
      rintro _ s11 ⟨rfl, D7, us7, e7, S11, k11, hD7, gD7, hi7⟩
      dsimp only
      have KD11 : ∀ b o, Off L b → b ≠ f1.oa → b ≠ f2.ca → hp.get? b = some o → s11.heap.get? b = some o := fun b o h1 h2 h3 e => k11 _ _ h1 (KD b o h1 h2 h3 e)
      replace gA := k11 _ _ (hoff _ r2) gA
      replace gM := k11 _ _ hmo gM
      replace hT : IsTup s11.heap tup #[.ref mis, .ref f2.ca] := by
        obtain ⟨o, ho, hT⟩ := hT
        exact ⟨o, k11 _ _ hto ho, hT⟩
      have hD7o := S10.off hD7
      have hmg1 : f1.cl ++ r.2 = lonesC cs m ta f1.lo f2.hi := by rw [hm]; exact hmg.1
      have hmg2 : r.1.reverse ++ f2.op = lonesO cs m ta f1.lo f2.hi := by rw [hm]; exact hmg.2
      have hlC := lonesC_len (cs := cs) (m := m) (ta := ta) (lo := f1.lo) hhi
      have hlO := lonesO_len (cs := cs) (m := m) (ta := ta) (lo := f1.lo) hhi
      have hlr : r.1.length ≤ 7 ∧ r.2.length ≤ 7 := by
        have h1 := congrArg List.length hmg1
        have h2 := congrArg List.length hmg2
        rw [List.length_append] at h1 h2
        rw [List.length_reverse] at h2
        omega
      have hkeep8 : ∀ (h : Heap), (∀ b o, Off L b → s11.heap.get? b = some o → h.get? b = some o) → ∀ b o, Off L b → s8.heap.get? b = some o → h.get? b = some o := fun h k b o hb e => k _ _ hb (k11 _ _ hb (K10 _ _ hb e))
      clear S10 hlm i1 i2 hmi' K10 KD
      have a8 : ∀ (h : Heap), (∀ b o, Off L b → s11.heap.get? b = some o → h.get? b = some o) → h.IsList f1.fa [Value.int f1.lo t1, .int f1.hi u1, .ref f1.ca, .ref f1.oa].toArray ∧ h.IsList f2.fa [Value.int f2.lo t2, .int f2.hi u2, .ref f2.ca, .ref f2.oa].toArray := fun h k =>
        ⟨⟨_, k _ _ (hoff _ q1) (KD11 _ _ (hoff _ q1) m1 m6 ga1), rfl, _, rfl⟩, ⟨_, k _ _ (hoff _ r1) (KD11 _ _ (hoff _ r1) m3 m9 gb1), rfl, _, rfl⟩⟩
      -- closers
      refine wpAny_execs_cons (wpAny_mono (Q := fun f s' => f = .next ∧ ∃ D8, LSt s₁ L (lloc (some (.int (od.fdiv z) ot')) (some (.ref DR)) x3 x4 (some (.ref df)) x6 (some (.int z tv)) (some (.int sp st')) (some (.ref tup)) (some (.ref D7)) (some (.ref D8)) y6) [none, some (.ref sc), some (.ref D1), some (.ref D2), some (.ref D3), x5, some (.ref D6), some (.ref f1.fa), some (.ref f2.fa)] s' ∧
        (∀ b o, Off L b → s11.heap.get? b = some o → s'.heap.get? b = some o) ∧ s11.heap.get? D8 = none ∧ s'.heap.get? D8 = some (listOf (refs (lonesC cs m ta f1.lo f2.hi)) 0)) (E := fun _ _ => False) ?b8 ?c8 (fun _ _ z => z.elim))
      case b8 =>
        obtain ⟨h2, g9, dr9, tk9, os9⟩ := s11
        have F := S11.fr
        have N : News s₁.heap L h2 [] := News.nil
        obtain ⟨i1, i2⟩ := a8 h2 (fun _ _ _ e => e)
        dsimp only at F
        iterate 3 walk1
        refine wpAny_Name (wpAny_loadName_cell rfl rfl rfl (S11.cs.at_ 7 (by decide) (by decide)) ?_)
        iterate 1 walk1
        refine item_list i1 (by decide) (by decide) rfl ?_
        iterate 1 walk1
        refine wpAny_Name (wpAny_loadName_cell rfl rfl rfl (S11.cs.at_ 8 (by decide) (by decide)) ?_)
        iterate 1 walk1
        refine item_list i2 (by decide) (by decide) rfl ?_
        refine LSt.addL (S11.heapS fun _ _ e => e) (KD11 _ _ (hoff _ q2) m2 m7 ga2) gA (by have := ok1.len; omega) (fun D8 h3 S3 k3 hD8 gD8 => ?_)
        rw [hmg1] at gD8
        refine LSt.storeN S3 rfl rfl (fun h4 tk4 S4 k4 => ?_)
        exact ⟨by first | exact rfl | exact True.intro, D8, S4, fun b o hb e => k4 _ _ hb (k3 b o hb e), hD8, k4 _ _ (S11.off hD8) gD8⟩
      rintro _ s12 ⟨rfl, D8, S12, k12, hD8, gD8⟩
      dsimp only
      have hD8o := S11.off hD8
      -- the closers are the same
      refine wpAny_execs_cons (wpAny_mono (Q := fun f s' => f = .next ∧ LSt s₁ L (lloc (some (.int (od.fdiv z) ot')) (some (.ref DR)) x3 x4 (some (.ref df)) x6 (some (.int z tv)) (some (.int sp st')) (some (.ref tup)) (some (.ref D7)) (some (.ref D8)) y6) [none, some (.ref sc), some (.ref D1), some (.ref D2), some (.ref D3), x5, some (.ref D6), some (.ref f1.fa), some (.ref f2.fa)] s' ∧
        (∀ b o, s12.heap.get? b = some o → s'.heap.get? b = some o)) (E := fun _ _ => False) ?b9 ?c9 (fun _ _ z => z.elim))
      case b9 =>
        obtain ⟨h2, g9, dr9, tk9, os9⟩ := s12
        have F := S12.fr
        have N : News s₁.heap L h2 [] := News.nil
        dsimp only at F
        iterate 9 walk1
        refine wpAny_ListComp_free (p := onInt (fun p => decide (cs.getD p.toNat 0 % 4 > 1))) (F := fun v y => ∃ (p : Nat) (t : Tok), v = Value.int p t ∧ y = .ref (ta.getD p 0)) rfl (by decide) rfl (by decide) (by decide) ?_
        iterate 1 walk1
        have g7 : h2.IsList D7 us7.toArray := ⟨_, k12 _ _ hD7o gD7, rfl, _, rfl⟩
        have h7I : D7 ≠ h2.objs.size := by obtain ⟨o, ho, _⟩ := g7; exact Nat.ne_of_lt (Heap.lt_size ho)
        have hl7 : us7.length ≤ 7 := by
          have h1 := lones_len (m := m) (lo := f1.lo) (hi := f2.hi)
          rw [ints_len hi7, List.length_map]
          omega
        have k12' := hkeep8 h2 k12
        have hlc : h2.IsList D2 us2.toArray := ⟨_, k12' _ _ (O8 _ (.tail _ (.tail _ (.tail _ (.tail _ (.tail _ (.head _))))))).2.1 (O8 _ (.tail _ (.tail _ (.tail _ (.tail _ (.tail _ (.head _))))))).1, rfl, _, rfl⟩
        have hlt : h2.get? D6 = some (listOf (refs ta) ep6) := k12' _ _ (O8 _ (.head _)).2.1 (O8 _ (.head _)).1
        have htj : ∀ p, p < 7 → (refs ta).toList[p]? = some (.ref (ta.getD p 0)) := fun p hp => by
          have hjl : p < ta.length := by rw [hth8.len]; exact hp
          simp [refs, List.getElem?_eq_getElem hjl]
        have item7 : ∀ (i : Nat) v, i < us7.toArray.size → us7.toArray[i]? = some v → ∃ (p : Nat) (t : Tok), v = Value.int p t ∧ p < 7 := by
          intro i v hi hv
          have hv' : us7[i]? = some v := by simpa using hv
          have hi' : i < us7.length := by simpa using hi
          obtain ⟨t, ht⟩ := ints_get hi7 (k := i) (by rw [← ints_len hi7]; exact hi')
          rw [ht] at hv'
          have hmem : ((lones m f1.lo f2.hi).map fun (p : Nat) => (p : Int)).getD i 0 ∈ (lones m f1.lo f2.hi).map fun (p : Nat) => (p : Int) := by
            rw [List.getD_eq_getElem?_getD, List.getElem?_eq_getElem (by rw [← ints_len hi7]; exact hi')]
            exact List.getElem_mem _
          obtain ⟨p, hp, e⟩ := List.mem_map.mp hmem
          rw [← e] at hv'
          injection hv' with hv'
          exact ⟨p, t, hv'.symm, by have := lones_lt hp; omega⟩
        refine wpAny_pyIter_list g7 ?_
        refine ⟨_, _, _, us7.toArray.size, _, _, rfl, bounded (Walks.list hBh h2.objs.size D7 h7I us7.toArray), by rw [sizeLine_eq, List.size_toArray]; omega, ⟨⟨_, Heap.get?_push_size _ rfl, rfl, rfl⟩, g7.at fun o e => Heap.get?_push_of_some _ e⟩, ?hfp, ⟨?tests, ?elt⟩, ?fin⟩
        case hfp =>
          intro b hb
          show b < (h2.push _).objs.size
          rw [Heap.size_push]
          rcases List.mem_cons.mp hb with rfl | hb
          · exact Nat.lt_succ_self _
          · rw [List.mem_singleton.mp hb]
            obtain ⟨o, ho, _⟩ := g7
            exact Nat.lt_succ_of_lt (Heap.lt_size ho)
        case tests =>
          intro C i v s₃ m₃ E' hC hP hns hm' hk htk
          obtain ⟨hiv, hv⟩ := hP
          obtain ⟨p, ti, rfl, hp7⟩ := item7 i v hiv hv
          have kk : ∀ b o, h2.get? b = some o → s₃.heap.get? b = some o := fun b o e => push_back hk b o e
          obtain ⟨tc, htc⟩ := ints_get hi2 (k := p) (by omega)
          refine wpAny_tests_one ?_
          iterate 3 walk1
          refine wpAny_Name (wpAny_loadName_cell rfl rfl rfl ((S12.cs.at_ 3 (by decide) (by decide)).keeps kk) ?_)
          refine wpAny_Name (wpAny_loadName_local rfl rfl hns hm' ?_)
          refine item_list (hlc.at fun o e => kk _ _ e) (by omega) (by omega) (by rw [show ((p : Nat) : Int).toNat = p from Int.toNat_natCast p]; exact htc) ?_
          iterate 4 walk1
          rw [fm4]
          refine wpAny_truthy_bool ?_
          exact ⟨rfl, _, _, rfl, fun b o e => e⟩
        case elt =>
          intro C i v s₃ m₃ E' hC hP _ hns hm hk htk
          obtain ⟨hiv, hv⟩ := hP
          obtain ⟨p, ti, rfl, hp7⟩ := item7 i v hiv hv
          have kk : ∀ b o, h2.get? b = some o → s₃.heap.get? b = some o := fun b o e => push_back hk b o e
          iterate 1 walk1
          refine wpAny_Name (wpAny_loadName_cell rfl rfl rfl ((S12.cs.at_ 6 (by decide) (by decide)).keeps kk) ?_)
          refine wpAny_Name (wpAny_loadName_local rfl rfl hns hm ?_)
          refine item_list (vs := (refs ta).toList) ⟨_, kk _ _ hlt, rfl, _, rfl⟩ (by omega) (by omega) (by rw [show ((p : Nat) : Int).toNat = p from Int.toNat_natCast p]; exact htj p hp7) ?_
          exact ⟨⟨p, ti, rfl, rfl⟩, keeps_refl _⟩
        case fin =>
          intro D h' tk' ys vs' hD hl hpl hlen' hj' hPa hk
          have k9 : ∀ b o, h2.get? b = some o → h'.get? b = some o := fun b o e => push_back hk b o e
          have hvs : vs' = us7 := by
            refine List.ext_getElem? fun j => ?_
            cases e : vs'[j]? with
            | some v =>
              have := (hj' j v e).2
              exact (by simpa using this : us7[j]? = some v).symm
            | none =>
              have h1 := List.getElem?_eq_none_iff.mp e
              rw [hlen', List.size_toArray] at h1
              exact (List.getElem?_eq_none_iff.mpr h1).symm
          rw [hvs] at hPa
          have hys := paired_things hi7 (fun p => decide (cs.getD p 0 % 4 > 1)) hPa
          have F := fr_off S12.fr (fun b o e _ => k9 b o e)
          have N : News s₁.heap L h' [] := News.nil
          iterate 1 walk1
          have hls : h'.IsList D (((lonesC cs m ta f1.lo f2.hi).map Value.ref).toArray) := by
            have e1 : ys = ((lonesC cs m ta f1.lo f2.hi).map Value.ref).toArray := by
              rw [show (lonesC cs m ta f1.lo f2.hi).map Value.ref = ys.toList from hys.symm, Array.toArray_toList]
            rw [← e1]; exact hl
          refine ⟨KX.keeps F.keep, wpAny_call (same_call (vs := (lonesC cs m ta f1.lo f2.hi).map Value.ref) (KX.keeps F.keep) (T.keeps F.keep) ⟨_, k9 _ _ gD8, rfl, _, rfl⟩ hls (by rw [List.length_map]; omega) (fun v hv => by obtain ⟨z, _, e⟩ := List.mem_map.mp hv; exact ⟨z, e.symm⟩) (by omega) hBh (by omega) fun s13 kp => ?_)⟩
          have k13 : ∀ b o, h2.get? b = some o → s13.heap.get? b = some o := fun b o e => kp.heap b o (k9 b o e)
          have gp13 : Gp ⟨h2, g9, dr9, tk9, os9⟩ s13 := ⟨kp.gens, kp.bare, kp.drawn, kp.os⟩
          have S13 := S12.keep (s' := s13) k13 gp13
          obtain ⟨h13, g13, d13, t13, o13⟩ := s13
          have F := S13.fr
          have N : News s₁.heap L h13 [] := News.nil
          dsimp only at F
          iterate 3 walk1
          exact ⟨by first | exact rfl | exact True.intro, S13, k13⟩
      rintro _ s14 ⟨rfl, S14, k14⟩
      dsimp only
      have k11_14 : ∀ b o, Off L b → s11.heap.get? b = some o → s14.heap.get? b = some o := fun b o hb e => k14 _ _ (k12 _ _ hb e)
      clear S12 S11
      refine wpAny_execs_cons (wpAny_mono (Q := fun f s' => f = .next ∧ ∃ D9, LSt s₁ L (lloc (some (.int (od.fdiv z) ot')) (some (.ref DR)) x3 x4 (some (.ref df)) x6 (some (.int z tv)) (some (.int sp st')) (some (.ref tup)) (some (.ref D7)) (some (.ref D8)) (some (.ref D9))) [none, some (.ref sc), some (.ref D1), some (.ref D2), some (.ref D3), x5, some (.ref D6), some (.ref f1.fa), some (.ref f2.fa)] s' ∧
        (∀ b o, Off L b → s14.heap.get? b = some o → s'.heap.get? b = some o) ∧ s14.heap.get? D9 = none ∧ s'.heap.get? D9 = some (listOf (refs (lonesO cs m ta f1.lo f2.hi)) 0)) (E := fun _ _ => False) ?b10 ?c10 (fun _ _ z => z.elim))
      case b10 =>
        have gM' := k11_14 _ _ hmo gM
        have gO' := k11_14 _ _ (hoff _ r3) (KD11 _ _ (hoff _ r3) m5 m10 gb3)
        have i2 := (a8 s14.heap k11_14).2
        have hT' : IsTup s14.heap tup [Value.ref mis, .ref f2.ca].toArray := by
          obtain ⟨o, ho, hT⟩ := hT
          exact ⟨o, k11_14 _ _ hto ho, hT⟩
        obtain ⟨h2, g9, dr9, tk9, os9⟩ := s14
        have F := S14.fr
        have N : News s₁.heap L h2 [] := News.nil
        dsimp only at F
        iterate 6 walk1
        refine item_tuple (j := 0) (x := .ref mis) hT' (by decide) (by decide) rfl rfl ?_
        iterate 7 walk1
        refine slice_h (hp := h2) (items := refs r.1) (st := some (-1)) ⟨_, gM', rfl, _, rfl⟩ .none .none (.int _ _) (by decide) (fun Dr h3 hDr k3 gDr => ?_) (by rw [refs_size, sizeLine_eq]; omega) (by with_unfolding_all rfl)
        rw [pick_rev] at gDr
        have F := fr_off S14.fr (fun b o e _ => k3 b o e)
        have N : News s₁.heap L h3 [] := News.nil
        try dsimp only at F
        iterate 1 walk1
        refine wpAny_Name (wpAny_loadName_cell rfl rfl rfl ((S14.cs.at_ 8 (by decide) (by decide)).keeps k3) ?_)
        iterate 1 walk1
        refine item_list (i2.at fun o e => k3 _ _ e) (by decide) (by decide) rfl ?_
        refine LSt.addL (S14.heapS k3) gDr (k3 _ _ gO') (by rw [List.length_reverse]; have := ok2.len; omega) (fun D9 h4 S4 k4 hD9 gD9 => ?_)
        rw [hmg2] at gD9
        refine LSt.storeN S4 rfl rfl (fun h5 tk5 S5 k5 => ?_)
        have hD9' : h2.get? D9 = none := by
          cases e : h2.get? D9 with
          | none => rfl
          | some o => rw [k3 _ _ e] at hD9; cases hD9
        exact ⟨by first | exact rfl | exact True.intro, D9, S5, fun b o hb e => k5 _ _ hb (k4 b o hb (k3 _ _ e)), hD9', k5 _ _ (S14.off hD9') gD9⟩
      rintro _ s15 ⟨rfl, D9, S15, k15, hD9, gD9⟩
      dsimp only
      have k11_15 : ∀ b o, Off L b → s11.heap.get? b = some o → s15.heap.get? b = some o := fun b o hb e => k15 _ _ hb (k11_14 _ _ hb e)
      have hD9o := S14.off hD9
      clear S14
      refine wpAny_execs_cons (wpAny_mono (Q := fun f s' => f = .next ∧ LSt s₁ L (lloc (some (.int (od.fdiv z) ot')) (some (.ref DR)) x3 x4 (some (.ref df)) x6 (some (.int z tv)) (some (.int sp st')) (some (.ref tup)) (some (.ref D7)) (some (.ref D8)) (some (.ref D9))) [none, some (.ref sc), some (.ref D1), some (.ref D2), some (.ref D3), x5, some (.ref D6), some (.ref f1.fa), some (.ref f2.fa)] s' ∧
        (∀ b o, s15.heap.get? b = some o → s'.heap.get? b = some o)) (E := fun _ _ => False) ?b11 ?c11 (fun _ _ z => z.elim))
      case b11 =>
        obtain ⟨h2, g9, dr9, tk9, os9⟩ := s15
        have F := S15.fr
        have N : News s₁.heap L h2 [] := News.nil
        dsimp only at F
        iterate 9 walk1
        refine wpAny_ListComp_free (p := onInt (fun p => decide (cs.getD p.toNat 0 % 4 < 2))) (F := fun v y => ∃ (p : Nat) (t : Tok), v = Value.int p t ∧ y = .ref (ta.getD p 0)) rfl (by decide) rfl (by decide) (by decide) ?_
        iterate 1 walk1
        have g7 : h2.IsList D7 us7.toArray := ⟨_, k11_15 _ _ hD7o gD7, rfl, _, rfl⟩
        have h7I : D7 ≠ h2.objs.size := by obtain ⟨o, ho, _⟩ := g7; exact Nat.ne_of_lt (Heap.lt_size ho)
        have hl7 : us7.length ≤ 7 := by
          have h1 := lones_len (m := m) (lo := f1.lo) (hi := f2.hi)
          rw [ints_len hi7, List.length_map]
          omega
        have k15q := hkeep8 h2 k11_15
        have hlc : h2.IsList D2 us2.toArray := ⟨_, k15q _ _ (O8 _ (.tail _ (.tail _ (.tail _ (.tail _ (.tail _ (.head _))))))).2.1 (O8 _ (.tail _ (.tail _ (.tail _ (.tail _ (.tail _ (.head _))))))).1, rfl, _, rfl⟩
        have hlt : h2.get? D6 = some (listOf (refs ta) ep6) := k15q _ _ (O8 _ (.head _)).2.1 (O8 _ (.head _)).1
        have htj : ∀ p, p < 7 → (refs ta).toList[p]? = some (.ref (ta.getD p 0)) := fun p hp => by
          have hjl : p < ta.length := by rw [hth8.len]; exact hp
          simp [refs, List.getElem?_eq_getElem hjl]
        have item7 : ∀ (i : Nat) v, i < us7.toArray.size → us7.toArray[i]? = some v → ∃ (p : Nat) (t : Tok), v = Value.int p t ∧ p < 7 := by
          intro i v hi hv
          have hv' : us7[i]? = some v := by simpa using hv
          have hi' : i < us7.length := by simpa using hi
          obtain ⟨t, ht⟩ := ints_get hi7 (k := i) (by rw [← ints_len hi7]; exact hi')
          rw [ht] at hv'
          have hmem : ((lones m f1.lo f2.hi).map fun (p : Nat) => (p : Int)).getD i 0 ∈ (lones m f1.lo f2.hi).map fun (p : Nat) => (p : Int) := by
            rw [List.getD_eq_getElem?_getD, List.getElem?_eq_getElem (by rw [← ints_len hi7]; exact hi')]
            exact List.getElem_mem _
          obtain ⟨p, hp, e⟩ := List.mem_map.mp hmem
          rw [← e] at hv'
          injection hv' with hv'
          exact ⟨p, t, hv'.symm, by have := lones_lt hp; omega⟩
        refine wpAny_pyIter_list g7 ?_
        refine ⟨_, _, _, us7.toArray.size, _, _, rfl, bounded (Walks.list hBh h2.objs.size D7 h7I us7.toArray), by rw [sizeLine_eq, List.size_toArray]; omega, ⟨⟨_, Heap.get?_push_size _ rfl, rfl, rfl⟩, g7.at fun o e => Heap.get?_push_of_some _ e⟩, ?hfp, ⟨?tests, ?elt⟩, ?fin⟩
        case hfp =>
          intro b hb
          show b < (h2.push _).objs.size
          rw [Heap.size_push]
          rcases List.mem_cons.mp hb with rfl | hb
          · exact Nat.lt_succ_self _
          · rw [List.mem_singleton.mp hb]
            obtain ⟨o, ho, _⟩ := g7
            exact Nat.lt_succ_of_lt (Heap.lt_size ho)
        case tests =>
          intro C i v s₃ m₃ E' hC hP hns hm' hk htk
          obtain ⟨hiv, hv⟩ := hP
          obtain ⟨p, ti, rfl, hp7⟩ := item7 i v hiv hv
          have kk : ∀ b o, h2.get? b = some o → s₃.heap.get? b = some o := fun b o e => push_back hk b o e
          obtain ⟨tc, htc⟩ := ints_get hi2 (k := p) (by omega)
          refine wpAny_tests_one ?_
          iterate 3 walk1
          refine wpAny_Name (wpAny_loadName_cell rfl rfl rfl ((S15.cs.at_ 3 (by decide) (by decide)).keeps kk) ?_)
          refine wpAny_Name (wpAny_loadName_local rfl rfl hns hm' ?_)
          refine item_list (hlc.at fun o e => kk _ _ e) (by omega) (by omega) (by rw [show ((p : Nat) : Int).toNat = p from Int.toNat_natCast p]; exact htc) ?_
          iterate 4 walk1
          rw [fm4]
          refine wpAny_truthy_bool ?_
          exact ⟨rfl, _, _, rfl, fun b o e => e⟩
        case elt =>
          intro C i v s₃ m₃ E' hC hP _ hns hm hk htk
          obtain ⟨hiv, hv⟩ := hP
          obtain ⟨p, ti, rfl, hp7⟩ := item7 i v hiv hv
          have kk : ∀ b o, h2.get? b = some o → s₃.heap.get? b = some o := fun b o e => push_back hk b o e
          iterate 1 walk1
          refine wpAny_Name (wpAny_loadName_cell rfl rfl rfl ((S15.cs.at_ 6 (by decide) (by decide)).keeps kk) ?_)
          refine wpAny_Name (wpAny_loadName_local rfl rfl hns hm ?_)
          refine item_list (vs := (refs ta).toList) ⟨_, kk _ _ hlt, rfl, _, rfl⟩ (by omega) (by omega) (by rw [show ((p : Nat) : Int).toNat = p from Int.toNat_natCast p]; exact htj p hp7) ?_
          exact ⟨⟨p, ti, rfl, rfl⟩, keeps_refl _⟩
        case fin =>
          intro D h' tk' ys vs' hD hl hpl hlen' hj' hPa hk
          have k9 : ∀ b o, h2.get? b = some o → h'.get? b = some o := fun b o e => push_back hk b o e
          have hvs : vs' = us7 := by
            refine List.ext_getElem? fun j => ?_
            cases e : vs'[j]? with
            | some v =>
              have := (hj' j v e).2
              exact (by simpa using this : us7[j]? = some v).symm
            | none =>
              have h1 := List.getElem?_eq_none_iff.mp e
              rw [hlen', List.size_toArray] at h1
              exact (List.getElem?_eq_none_iff.mpr h1).symm
          rw [hvs] at hPa
          have hys := paired_things hi7 (fun p => decide (cs.getD p 0 % 4 < 2)) hPa
          have F := fr_off S15.fr (fun b o e _ => k9 b o e)
          have N : News s₁.heap L h' [] := News.nil
          iterate 1 walk1
          have hls : h'.IsList D (((lonesO cs m ta f1.lo f2.hi).map Value.ref).toArray) := by
            have e1 : ys = ((lonesO cs m ta f1.lo f2.hi).map Value.ref).toArray := by
              rw [show (lonesO cs m ta f1.lo f2.hi).map Value.ref = ys.toList from hys.symm, Array.toArray_toList]
            rw [← e1]; exact hl
          refine ⟨KX.keeps F.keep, wpAny_call (same_call (vs := (lonesO cs m ta f1.lo f2.hi).map Value.ref) (KX.keeps F.keep) (T.keeps F.keep) ⟨_, k9 _ _ gD9, rfl, _, rfl⟩ hls (by rw [List.length_map]; omega) (fun v hv => by obtain ⟨z, _, e⟩ := List.mem_map.mp hv; exact ⟨z, e.symm⟩) (by omega) hBh (by omega) fun s13 kp => ?_)⟩
          have k13 : ∀ b o, h2.get? b = some o → s13.heap.get? b = some o := fun b o e => kp.heap b o (k9 b o e)
          have gp13 : Gp ⟨h2, g9, dr9, tk9, os9⟩ s13 := ⟨kp.gens, kp.bare, kp.drawn, kp.os⟩
          have S13 := S15.keep (s' := s13) k13 gp13
          obtain ⟨h13, g13, d13, t13, o13⟩ := s13
          have F := S13.fr
          have N : News s₁.heap L h13 [] := News.nil
          dsimp only at F
          iterate 3 walk1
          exact ⟨by first | exact rfl | exact True.intro, S13, k13⟩
      rintro _ s16 ⟨rfl, S16, k16⟩
      dsimp only
      have k11_16 : ∀ b o, Off L b → s11.heap.get? b = some o → s16.heap.get? b = some o := fun b o hb e => k16 _ _ (k11_15 _ _ hb e)
      clear S15
      have hdno : df ≠ f1.oa ∧ df ≠ f2.ca := ⟨fun e => hd (e ▸ q3), fun e => hd (e ▸ r2)⟩
      have gd16 := k11_16 _ _ hdo (KD11 _ _ hdo hdno.1 hdno.2 gd)
      have gC16 := k16 _ _ (k15 _ _ hD8o (k14 _ _ gD8))
      have gO16 := k16 _ _ gD9
      obtain ⟨i1, i2⟩ := a8 s16.heap k11_16
      have hlv' : ∃ o, hp.get? h3.objs.size = some o := hlv _ (.head _)
      have hIn : h3.objs.size ≠ f1.oa ∧ h3.objs.size ≠ f2.ca := ⟨fun e => hi (e ▸ q3), fun e => hi (e ▸ r2)⟩
      have fresh : ∀ h : Heap, (∀ b o, Off L b → s11.heap.get? b = some o → h.get? b = some o) → ∀ D, h.get? D = none → Off L D → s8.heap.get? D = none ∧ D ∉ adrs (FA ++ FC) ∧ D ≠ h3.objs.size := by
        intro h k D hD hO
        refine ⟨?_, fun hm => ?_, fun e => ?_⟩
        · cases e : s8.heap.get? D with
          | none => rfl
          | some o => rw [hkeep8 h k D o hO e] at hD; cases hD
        · have hmf : D ∈ adrs fl := by rw [hfl]; exact adrs_sub D hm
          obtain ⟨o, ho⟩ := X.live D hmf
          have n6 := nAC D hm
          rw [k D o hO (KD11 D o hO (fun e => n6 (e ▸ .tail _ (.tail _ (.head _)))) (fun e => n6 (e ▸ .tail _ (.tail _ (.tail _ (.tail _ (.head _)))))) ho)] at hD; cases hD
        · obtain ⟨o, ho⟩ := hlv'
          rw [e, k _ o hI0 (KD11 _ o hI0 hIn.1 hIn.2 ho)] at hD; cases hD
      have f8 := fresh s11.heap (fun _ _ _ e => e) D8 hD8 hD8o
      have f9 := fresh s14.heap k11_14 D9 hD9 hD9o
      have n89 : D8 ≠ D9 := fun e => by rw [← e, k14 _ _ gD8] at hD9; cases hD9
      obtain ⟨h2, g9, dr9, tk9, os9⟩ := s16
      have F := S16.fr
      have N : News s₁.heap L h2 [] := News.nil
      dsimp only at F
      iterate 11 walk1
      refine slice_h (hp := h2) (items := refs (fl.map Form.fa)) (lo := none) (hi := some (sp : Int)) (st := none) ⟨_, gd16, rfl, _, rfl⟩ .none (.int _ _) .none (by decide) (fun Ds hA hDs kA gDs => ?_) (by rw [refs_size, List.length_map, sizeLine_eq]; omega) (by with_unfolding_all rfl)
      rw [refs_to _ _ (by rw [List.length_map]; omega), hfl, fas_take hAl] at gDs
      have F := fr_off S16.fr (fun b o e _ => kA b o e)
      have N : News s₁.heap L hA [] := News.nil
      try dsimp only at F
      iterate 5 walk1
      refine wpAny_Name (wpAny_loadName_cell rfl rfl rfl ((S16.cs.at_ 7 (by decide) (by decide)).keeps kA) ?_)
      iterate 1 walk1
      refine item_list (i1.at fun o e => kA _ _ e) (by decide) (by decide) rfl ?_
      iterate 2 walk1
      refine wpAny_Name (wpAny_loadName_cell rfl rfl rfl ((S16.cs.at_ 8 (by decide) (by decide)).keeps kA) ?_)
      iterate 1 walk1
      refine item_list (i2.at fun o e => kA _ _ e) (by decide) (by decide) rfl ?_
      iterate 5 walk1
      refine newL (fun Dn hB hDn kB gDn => ?_) (show 4 ≤ sizeLine by rw [sizeLine_eq]; decide)
      have kAB : ∀ b o, h2.get? b = some o → hB.get? b = some o := fun b o e => kB b o (kA b o e)
      have F := fr_off S16.fr (fun b o e _ => kAB b o e)
      have N : News s₁.heap L hB [] := News.nil
      try dsimp only at F
      iterate 1 walk1
      refine newL (fun Dm hC hDm kC gDm => ?_) (show 1 ≤ sizeLine by rw [sizeLine_eq]; decide)
      have kAC : ∀ b o, h2.get? b = some o → hC.get? b = some o := fun b o e => kC b o (kAB b o e)
      have gDm' : hC.get? Dm = some (listOf (refs [Dn]) 0) := gDm
      refine LSt.addL (S16.heapS kAC) (kC _ _ (kB _ _ gDs)) gDm' (by rw [List.length_map]; show FA.length + 1 ≤ 1000; omega) (fun Dp hD S17 k17 hDp gDp => ?_)
      have F := S17.fr
      have N : News s₁.heap L hD [] := News.nil
      try dsimp only at F
      iterate 10 walk1
      have gdD := k17 _ _ hdo (kAC _ _ gd16)
      refine slice_h (hp := hD) (items := refs (fl.map Form.fa)) (lo := some ((sp : Int) + 2)) (hi := none) (st := none) ⟨_, gdD, rfl, _, rfl⟩ (.int _ _) .none .none (by decide) (fun Dt hE hDt kE gDt => ?_) (by rw [refs_size, List.length_map, sizeLine_eq]; omega) (by with_unfolding_all rfl)
      rw [show ((sp : Int) + 2) = ((sp + 2 : Nat) : Int) by omega, refs_from _ _ (by rw [List.length_map]; omega), hfl, fas_drop hAl] at gDt
      have hFC : FA.length + 1 + FC.length ≤ 1000 := by
        have := congrArg List.length hfl
        simp only [List.length_append, List.length_cons] at this
        omega
      refine LSt.addL (S17.heapS kE) (kE _ _ gDp) gDt (by rw [List.length_append, List.length_map, List.length_map]; show FA.length + 1 + FC.length ≤ 1000; exact hFC) (fun Dq hF S18 k18 hDq gDq => ?_)
      refine LSt.storeN S18 rfl rfl (fun hG tkG S19 k19 => ?_)
      dsimp only at k19
      refine wpAny_execs_nil ?_
      refine hPP _ _ ?_
      have off2 : ∀ D, h2.get? D = none → Off L D := fun D hD => S16.off hD
      have nn : ∀ {h h' : Heap} {a : Addr}, (∀ b o, h.get? b = some o → h'.get? b = some o) → h'.get? a = none → h.get? a = none := fun {h h' a} k e => by
        cases e' : h.get? a with
        | none => rfl
        | some o => rw [k _ _ e'] at e; cases e
      have kCG : ∀ b o, Off L b → hC.get? b = some o → hG.get? b = some o := fun b o hb e => k19 _ _ hb (k18 _ _ hb (kE _ _ (k17 _ _ hb e)))
      have k2G : ∀ b o, Off L b → h2.get? b = some o → hG.get? b = some o := fun b o hb e => kCG _ _ hb (kAC _ _ e)
      have k11G : ∀ b o, Off L b → s11.heap.get? b = some o → hG.get? b = some o := fun b o hb e => k2G _ _ hb (k11_16 _ _ hb e)
      have hDn2 : h2.get? Dn = none := nn kA hDn
      have hDqo : Off L Dq := S17.heapS (t' := tkG) kE |>.off hDq
      have hDqD : hD.get? Dq = none := nn kE hDq
      have fn := fresh h2 k11_16 Dn hDn2 (off2 _ hDn2)
      have fq := fresh hD (fun b o hb e => k17 _ _ hb (kAC _ _ (k11_16 _ _ hb e))) Dq hDqD hDqo
      have live2 : ∀ D o, Off L D → h2.get? D = some o → D ≠ Dq := fun D o hO e z => by
        rw [← z, k17 _ _ hO (kAC _ _ e)] at hDqD; cases hDqD
      have gDnG := kCG _ _ (off2 _ hDn2) (kC _ _ gDn)
      have gC2 := k2G _ _ hD8o gC16
      have gO2 := k2G _ _ hD9o gO16
      rw [hm] at gC2 gO2
      dsimp only
      have hXr : Fs s8.heap hp (FA ++ FC) := (hfl ▸ X : Fs s8.heap hp (FA ++ f1 :: f2 :: FC)).rest
      have keepR : ∀ b o, b ∈ adrs (FA ++ FC) → hp.get? b = some o → hG.get? b = some o := fun b o hb e => by
        have hmf : b ∈ adrs fl := by rw [hfl]; exact adrs_sub b hb
        have n6 := nAC b hb
        exact k11G _ _ (hoff b hmf) (KD11 b o (hoff b hmf) (fun e => n6 (e ▸ .tail _ (.tail _ (.head _)))) (fun e => n6 (e ▸ .tail _ (.tail _ (.tail _ (.tail _ (.head _)))))) e)
      have hfm : FormAt hG ⟨mergeD cs (msOf cs) ta f1.toDat f2.toDat, Dn, D8, D9⟩ := ⟨⟨t1, u2, 0, gDnG⟩, ⟨0, gC2⟩, ⟨0, gO2⟩⟩
      have nD8 : Dn ≠ D8 := fun e => by rw [e, gC16] at hDn2; cases hDn2
      have nD9 : Dn ≠ D9 := fun e => by rw [e, gO16] at hDn2; cases hDn2
      have hFs' := (hXr.keep keepR).ins hfm fn.2.1 f8.2.1 f9.2.1 nD8 nD9 n89 fn.1 f8.1 f9.1
      have nq : Dq ∉ adrs (FA ++ (⟨mergeD cs (msOf cs) ta f1.toDat f2.toDat, Dn, D8, D9⟩ : Form) :: FC) := fun hm => by
        rcases adrs_ins hm with h | h | h | h
        · exact fq.2.1 h
        · rw [show Dq = Dn from h, k17 _ _ (off2 _ hDn2) (kC _ _ gDn)] at hDqD; cases hDqD
        · rw [show Dq = D8 from h, k17 _ _ hD8o (kAC _ _ gC16)] at hDqD; cases hDqD
        · rw [show Dq = D9 from h, k17 _ _ hD9o (kAC _ _ gO16)] at hDqD; cases hDqD
      have nI : h3.objs.size ∉ adrs (FA ++ (⟨mergeD cs (msOf cs) ta f1.toDat f2.toDat, Dn, D8, D9⟩ : Form) :: FC) := fun hm => by
        rcases adrs_ins hm with h | h | h | h
        · exact hi (by rw [hfl]; exact adrs_sub _ h)
        · exact fn.2.2 h.symm
        · exact f8.2.2 h.symm
        · exact f9.2.2 h.symm
      have e9 : (FA.map Form.fa ++ [Dn]) ++ FC.map Form.fa = (FA ++ (⟨mergeD cs (msOf cs) ta f1.toDat f2.toDat, Dn, D8, D9⟩ : Form) :: FC).map Form.fa := by
        rw [List.map_append, List.append_assoc]; rfl
      have gq := k19 _ _ hDqo gDq
      rw [e9] at gq
      have hseg : SegOk cs (msOf cs) ta z ((FA ++ (⟨mergeD cs (msOf cs) ta f1.toDat f2.toDat, Dn, D8, D9⟩ : Form) :: FC).map Form.toDat) := by
        rw [hfl, List.map_append] at hf
        rw [List.map_append]
        exact SegOk.step (A := FA.map Form.toDat) (C := FC.map Form.toDat) (d1 := f1.toDat) (d2 := f2.toDat) hf
      refine ⟨fun b hb o e => ?_, od.fdiv z, ot', Dq, _, 0, x6, some (.int z tv), some (.int sp st'), some (.ref tup), some (.ref D7), some (.ref D8), some (.ref D9), some (.ref f1.fa), some (.ref f2.fa), S19, hkeep8 hG k11G, hFs', nq, nI, fq.1, fq.2.2, gq, hdiv, hseg⟩
      rw [List.mem_singleton.mp hb] at e ⊢
      exact k11G _ _ hI0 (KD11 _ _ hI0 hIn.1 hIn.2 e)
  try clear S
  rintro _ s' ⟨rfl, loc, v, S⟩
  dsimp only
  have F := S.fr
  have N : News s₁.heap L s'.heap [] := News.nil
  obtain ⟨h1, g1, dr1, tk1, os1⟩ := s'
  dsimp only at F N
  iterate 3 walk1
  have hg0 : AllBare s₁.gens := by rw [hgens]; exact fun y hy => absurd hy (Array.not_mem_empty y)
  exact ⟨rfl, S.fr.keep, S.gp.bare hg0, S.gp.os⟩
end Mine
end
theorem PySem.Challenge.cw_tv0009_01_holds : PySem.Challenge.rw_tv0009_01.Holds := by
  exact Mine.law_walk
