import PyProof.Rows.All
import Wide.All
import OpenK.AllK
import Wide.FinOn
import PySem.Challenge.RW_kg0003_01
open PySem PySem.W PyProof.Rows PySem.Calls
set_option Elab.async false
namespace Mine
/-- what a for loop's turn does with the flow of its body -/
def KF (target : Expr) (it : Value) (body orelse : List Stmt) (env : Env) : Flow → Sem Fin
  | .next | .cont => .pure (.again (.forLoop target it body orelse env))
  | .brk => .pure (.done .next)
  | .ret v => .pure (.done (.ret v))
/-- what a loop's own activation does with an exception -/
def HF (env : Env) : Value → Sem Fin := fun e => (do noteFrame e env; theTreesLotGoes e : Sem Unit).wrap (fun _ => .raise e) .raise id id
/-- what a function's frame does with an exception -/
def HL (env : Env) : Value → Sem Fin := fun e => (leaving env e).wrap (fun _ => .raise e) .raise id id
/-- what stands behind an own activation -/
def KO (env : Env) (K : Flow → Sem Fin) (H : Value → Sem Fin) (gd : Bool → Bool) (lv : List Value → List Value) : Result → Sem Fin := fun r =>
  ((match r with | .ok f => (.pure f : Sem Flow) | .error e => .raise e).onRaise fun (x : Value) => do
    if (← field x 1) == Value.none then unsupported "frame.own-activation:exception-without-traceback"
    setFlight x env.frame).wrap K H gd lv

section
variable {M : Model} {A : Around} {R : GenEnd} {Y : Protocol} {n : Nat} {s₀ : Shared} {c : Code} {fs : List Frame} {s : Shared} {env : Env}
  {K : Flow → Sem Fin} {H : Value → Sem Fin} {gd : Bool → Bool} {lv : List Value → List Value}

theorem seg_yieldAny {v g l} {k : Resume → Sem Fin} (hfs : splitAtGen fs = none) (hg : g = false) (hfg : fs.any Frame.guarded = false)
    (h : Y (n - 1) s₀ v s fun r s'' => Seg.next M A R Y n c (k r) fs s'') : Seg M A R Y n s₀ c (.yield v g l k) fs s := by
  rw [seg_iff]
  rintro Γ p rfl _
  exact ⟨_, s, Runs.yield' fs hfs, And.intro (by simp [End.quiet, hg, hfg]) h⟩

theorem seg_If {test : Expr} {body orelse : List Stmt} {pos : Pos}
    (h : wpAny M (A.over c fs) (isTrue test env (eval test env)) (fun b s' => if b then Seg M A R Y n s₀ c ((execs body env).wrap K H gd lv) fs s'
        else Seg M A R Y n s₀ c ((execs orelse env).wrap K H gd lv) fs s') (fun x s' => Seg M A R Y n s₀ c (H x) fs s') s) :
    Seg M A R Y n s₀ c ((exec (.If test body orelse pos) env).wrap K H gd lv) fs s := by
  rw [exec_If]
  refine seg_bind_wrap (wpAny_standAt ?_)
  refine seg_bind_wrap (wpAny_mono h (fun b s' hb => ?_) fun _ _ x => x)
  cases b <;> exact hb

theorem seg_exec {st : Stmt} (h : wpAny M (A.over c fs) (exec st env) (fun f s' => Seg M A R Y n s₀ c (K f) fs s') (fun x s' => Seg M A R Y n s₀ c (H x) fs s') s) :
    Seg M A R Y n s₀ c ((exec st env).wrap K H gd lv) fs s := seg_wrap h

theorem seg_For {target iter : Expr} {body orelse : List Stmt} {pos : Pos}
    (h : wpAny M (A.over c fs) (eval iter env) (fun x s₁ => wpAny M (A.over c fs) (pyIter x) (fun it s₂ =>
        ∀ p, Seg M A R Y n s₀ (.forLoop target it body orelse env) (M.den (.forLoop target it body orelse env)) (.ret (KO env K H gd lv) none (gd false) (lv []) c p [] :: fs) s₂)
        (fun x s' => Seg M A R Y n s₀ c (H x) fs s') s₁) (fun x s' => Seg M A R Y n s₀ c (H x) fs s') s)
    (hs : ∀ x, foldedSetIterable iter env x = pure x := by intro _; rfl) :
    Seg M A R Y n s₀ c ((exec (.For target iter body orelse pos) env).wrap K H gd lv) fs s := by
  rw [exec_For]
  refine seg_bind_wrap (wpAny_standAt ?_)
  refine seg_bind_wrap (wpAny_mono h (fun x s₁ h₁ => ?_) fun _ _ y => y)
  rw [hs x]
  refine seg_bind_wrap (wpAny_pure ?_)
  refine seg_bind_wrap (wpAny_standAt ?_)
  refine seg_bind_wrap (wpAny_holding (wpAny_mono h₁ (fun it s₂ h₂ => ?_) fun _ _ y => y))
  exact seg_call h₂

/-- the while loop of GenRules, in the words above -/
theorem seg_WhileK {test : Expr} {body orelse : List Stmt} {pos : Pos}
    (h : ∀ p, Seg M A R Y n s₀ (.whileLoop test body orelse env) (M.den (.whileLoop test body orelse env)) (.ret (KO env K H gd lv) none (gd false) (lv []) c p [] :: fs) s) :
    Seg M A R Y n s₀ c ((exec (.While test body orelse pos) env).wrap K H gd lv) fs s := seg_While h

/-- a yield as a statement: what is asked of the protocol -/
theorem seg_ExprYield {e : Expr} {ypos pos : Pos} (hfs : splitAtGen fs = none) (hgd : gd false = false) (hfg : fs.any Frame.guarded = false)
    (h : wpAny M (A.over c fs) (eval e env) (fun v s' => ∀ kap : Resume → Shared → Prop,
        (∀ s'', Seg.next M A R Y n c (K .next) fs s'' → kap (.send .none) s'') → Y (n - 1) s₀ v s' kap)
      (fun x s' => Seg M A R Y n s₀ c (H x) fs s') s) (hco : env.scope.isCoroutine = false := by rfl) (hi : interactive env = false := by rfl) :
    Seg M A R Y n s₀ c ((exec (.Expr (.Yield (some e) ypos) pos) env).wrap K H gd lv) fs s := by
  rw [exec_Expr env _ pos hi rfl]
  show Seg M A R Y n s₀ c (.at pos fun _ => ((eval e env >>= fun v => (standAt ypos >>= fun _ => yieldOut env v)) >>= fun x =>
    dropValue (.Yield (some e) ypos) pos x).wrap K H gd lv) fs s
  have hy : ∀ v, yieldOut env v = yieldValue v := fun v => by simp only [yieldOut, hco, Bool.false_eq_true, if_false]
  simp only [hy]
  refine seg_at ?_
  rw [Sem.bind_eq_wrap', Sem.bind_eq_wrap', Sem.wrap_wrap, Sem.wrap_wrap]
  refine seg_wrap (wpAny_mono h (fun v s' h' => ?_) fun _ _ x => x)
  refine seg_at (seg_yieldAny hfs hgd hfg ?_)
  refine h' _ fun s'' hx => ?_
  exact hx
end

section
variable {prog : Program} {w : World} {A : Around} {R : GenEnd} {Y : Protocol} {n : Nat} {s₀ : Shared} {fs : List Frame} {s : Shared} {env : Env}

theorem seg_forLoop {target : Expr} {it : Value} {body orelse : List Stmt}
    (h : wpAny (model prog w) (A.over (.forLoop target it body orelse env) fs) (pyNext it) (fun r s₁ => match r with
        | none => Seg (model prog w) A R Y n s₀ (.block orelse env) ((model prog w).den (.block orelse env)) fs s₁
        | some v => wpAny (model prog w) (A.over (.forLoop target it body orelse env) fs) (assign target env v)
            (fun _ s₂ => Seg (model prog w) A R Y n s₀ (.forLoop target it body orelse env) ((execs body env).wrap (KF target it body orelse env) (HF env) id id) fs s₂)
            (fun x s' => Seg (model prog w) A R Y n s₀ (.forLoop target it body orelse env) (HF env x) fs s') s₁)
      (fun x s' => Seg (model prog w) A R Y n s₀ (.forLoop target it body orelse env) (HF env x) fs s') s)
    (ht : ∀ v, letOwnedTupleGo target it v = pure () := by intro _; rfl) :
    Seg (model prog w) A R Y n s₀ (.forLoop target it body orelse env) ((model prog w).den (.forLoop target it body orelse env)) fs s := by
  show Seg _ A R Y n s₀ _ ((forTurn target it body orelse env).onRaise (fun x => do noteFrame x env; theTreesLotGoes x)) fs s
  have hH : (fun e => (do noteFrame e env; theTreesLotGoes e : Sem Unit).bind fun _ => (.raise e : Sem Fin)) = HF env := by
    funext e; unfold HF; rw [Sem.bind_eq_wrap]
  unfold forTurn
  rw [Sem.onRaise_eq_wrap, hH]
  refine seg_bind_wrap (wpAny_standAt ?_)
  refine seg_bind_wrap (wpAny_onRaise (wpAny_mono h (fun r s₁ h₁ => ?_) fun x s' hx => wpAny_standAt hx))
  cases r with
  | none => exact seg_again rfl h₁
  | some v =>
    refine seg_bind_wrap (wpAny_of_eq (ht v) ?_)
    refine seg_bind_wrap (wpAny_mono h₁ (fun _ s₂ h₂ => ?_) fun x s' hx => hx)
    rw [Sem.bind_eq_wrap', Sem.wrap_wrap]
    have e : ∀ f : Flow, Sem.wrap Sem.pure (HF env) id id (match f with
          | .next | .cont => again (.forLoop target it body orelse env)
          | .brk => pure (.done .next)
          | .ret v => pure (.done (.ret v))) = KF target it body orelse env f := fun f => by cases f <;> rfl
    refine Eq.mp (congrArg (fun K => Seg (model prog w) A R Y n s₀ (.forLoop target it body orelse env) (Sem.wrap K (HF env) id id (execs body env)) fs s₂) (funext e).symm) ?_
    exact h₂
end

theorem valueError_not_stop : isSubtype (.type "ValueError") (.type "StopIteration") = pure false := by rw [isSubtype_type]; kernel_rfl

section
variable {prog : Program} {w : World} {A : Around} {E : Value → Shared → Prop} {s : Shared}

/-- one step of a generator that ends, yields, or raises a ValueError -/
theorem pyNext_gen {a : Addr} {g n : Nat} {gs : GenState} {R : GenEnd} {Y : Protocol} {Q : Option Value → Shared → Prop} (hh : A.handled = none)
    (hl : s.heap.NoLimit) (hroom : A.depth < recursionLimit)
    (hg : s.heap.IsGen a g) (hgs : s.gens[g]? = some gs)
    (hgo : gs.Goes (model prog w) A.in1 R Y n (.send .none) (s.setGen g .running))
    (hY : ∀ v s₁ gs', gs'.bare = true → Y (n - 1) (s.setGen g .running) v s₁ (fun r' s'' => match n with
        | 0 => False
        | m + 1 => gs'.Goes (model prog w) A.in1 R Y m r' s'') → Q (some v) (s₁.setGen g gs'))
    (hR : ∀ r s₁, R n (s.setGen g .running) r s₁ →
      (r = .ok (.ret .none) ∧ ∀ h', (∀ b o, s₁.heap.get? b = some o → h'.get? b = some o) → Q none { s₁.setGen g .finished with heap := h' }) ∨
      (∃ e, r = .error (.ref e) ∧ s₁.heap.IsGen a g ∧ s₁.TypeIs (.ref e) "ValueError" ∧ E (.ref e) (s₁.setGen g .finished))) :
    wpAny (model prog w) A (pyNext (.ref a)) Q E s := by
  unfold pyNext
  refine wpAny_bind (wpAny_attempt (wpAny_callSpecial?_slot (name := Str.ofString "__next__") hg.typeIs slot_gen_next
    (wpAny_call_entry slot_gen_next hg.typeIs entry_gen_next ?_ (args_gen_next _))))
  show wpAny _ A.in1 (Builtin.Generator.genWake (.ref a) (.send .none)) _ _ s
  unfold Builtin.Generator.genWake
  refine wpAny_bind (wpAny_holding (wpAny_genNumber hg (wpAny_bind (wpAny_genState hgs ?_))))
  cases gs with
  | running => exact hgo.elim
  | finished => exact hgo.elim
  | _ =>
    refine wpAny_bind (wpAny_roomToWake hl hroom ?_)
    show wpAny _ A.in1 (.resume g (.send .none) [] _) _ _ s
    refine wpAny_resumeQ hgs hgo (fun x s₁ hx => ?_) (fun v s₁ gs' hb hv => ?_)
    · rcases hR x s₁ hx with ⟨rfl, hp⟩ | ⟨e, rfl, hg₁, he, hE⟩
      · show wpAny _ A.in1 (newExc (.type "StopIteration") [] >>= _) _ _ _
        refine wpAny_bind ?_
        simp only [newExc, newTuple]
        refine wpAny_bind (wpAny_newObj_type ?_ (by size_fits))
        refine wpAny_bind (m := firstArgMember _ _) (wpAny_of_eq (a := Value.none) (by first | rfl | (simp only [firstArgMember]; rfl)) ?_)
        refine wpAny_newObj_type ?_ (by size_fits)
        simp only [raiseNew]
        refine wpAny_bind (wpAny_bind (wpAny_handled ?_))
        first | rw [show A.in1.handled = none from hh] | rw [hh]
        refine wpAny_throw ?_
        refine wpAny_bind (wpAny_isInstance (T := "StopIteration") (b := true) ⟨_, Heap.get?_push_size _ rfl, rfl⟩ isSubtype_stop ?_)
        exact wpAny_pure (hp _ fun b o hb => Heap.get?_push_of_some _ (Heap.get?_push_of_some _ hb))
      · show wpAny _ A.in1 (Builtin.Generator.genLeft (.ref a) (.ref e)) _ _ _
        unfold Builtin.Generator.genLeft Builtin.Generator.madeByALambda
        obtain ⟨o, nm, qn, ho, hoc, hod, hos⟩ := hg₁
        refine wpAny_bind (wpAny_bind (wpAny_load ho (wpAny_pure ?_)))
        have he' : (s₁.setGen g .finished).TypeIs (.ref e) "ValueError" := he
        refine wpAny_bind (wpAny_isInstance he' valueError_not_stop ?_)
        simp only [Bool.and_false, Bool.false_eq_true, if_false]
        unfold Builtin.Generator.genEscaped
        refine wpAny_bind (wpAny_isInstance he' valueError_not_stop ?_)
        simp only [Bool.not_false, if_true]
        refine wpAny_bind (wpAny_throw ?_)
        refine wpAny_bind (wpAny_isInstance he' valueError_not_stop ?_)
        simp only [Bool.false_eq_true, if_false]
        exact wpAny_throw hE
    · exact wpAny_pure ⟨v, rfl, wpAny_pure (hY v s₁ gs' hb hv)⟩
end

/-! the parts of the program, by projection -/
def nth : List Stmt → Nat → Stmt
  | [], _ => .Pass default
  | s :: _, 0 => s
  | _ :: r, n + 1 => nth r n
def bodyOf : Stmt → List Stmt
  | .FunctionDef _ _ b _ _ _ _ _ _ _ => b
  | .For _ _ b _ _ => b
  | .While _ b _ _ => b
  | .If _ b _ _ => b
  | .Try b _ _ _ _ => b
  | _ => []
def scopeOf : Stmt → Scope
  | .FunctionDef _ _ _ _ _ _ sc _ _ _ => sc
  | _ => { kind := .function, names := [], isGenerator := false, isCoroutine := false }
def targetOf : Stmt → Expr
  | .For t _ _ _ _ => t
  | .While t _ _ _ => t
  | _ => .Constant .none 0 default
def gdef : Stmt := nth PySem.Challenge.pw_kg0003_01.main.body 2
def gbody : List Stmt := bodyOf gdef
def gscope : Scope := scopeOf gdef
def gfor : Stmt := nth gbody 1
def gfb : List Stmt := bodyOf gfor
def gwhile : Stmt := nth (bodyOf (nth gfb 1)) 1
def gwb : List Stmt := bodyOf gwhile
abbrev sLast : Str := Str.ofString "last_interval"
abbrev sInt : Str := Str.ofString "interval"
abbrev sGrp : Str := Str.ofString "grouping"
abbrev genv (Lg fa : Addr) (cd : Value) : Env := envOf (Str.ofString "_grouping_intervals") gscope Lg fa cd

/-! the sequence that is told -/
def good (z : Int) : Bool := !(z == 127) && !(z == 0)
def pre (zs : List Int) : List Int := zs.takeWhile good
def V (zs : List Int) (j : Nat) : Int := if j < (pre zs).length then (pre zs).getD j 0 else (pre zs).getD ((pre zs).length - 1) 0

theorem pre_split (zs : List Int) : pre zs ++ zs.dropWhile good = zs := List.takeWhile_append_dropWhile ..
theorem pre_in {zs : List Int} {i : Nat} (h : i < (pre zs).length) : ∃ z, zs[i]? = some z ∧ good z = true ∧ (pre zs).getD i 0 = z := by
  refine ⟨(pre zs)[i], ?_, ?_, by simp [h]⟩
  · conv => lhs; rw [← pre_split zs]
    rw [List.getElem?_append_left h]; simp [h]
  · have := List.all_takeWhile (p := good) (l := zs)
    rw [List.all_eq_true] at this
    exact this _ (List.getElem_mem h)
theorem dropWhile_head {p : Int → Bool} : ∀ {l : List Int} {z : Int}, (l.dropWhile p)[0]? = some z → p z = false
  | [], z, h => by simp at h
  | a :: l, z, h => by
    by_cases ha : p a = true
    · rw [List.dropWhile_cons_of_pos ha] at h; exact dropWhile_head h
    · rw [List.dropWhile_cons_of_neg ha] at h
      simp at h; subst h; simpa using ha
theorem pre_out {zs : List Int} {z : Int} (h : zs[(pre zs).length]? = some z) : z = 127 ∨ z = 0 := by
  conv at h => lhs; rw [← pre_split zs]
  have h' : (pre zs ++ zs.dropWhile good)[(pre zs).length]? = some z := by
    rw [pre_split]; rw [pre_split] at h; exact h
  rw [List.getElem?_append_right (Nat.le_refl _), Nat.sub_self] at h'
  have := dropWhile_head h'
  simp only [good, Bool.and_eq_false_iff, Bool.not_eq_false', beq_iff_eq] at this
  exact this

/-- what has happened since the wake: the generator's frame and what it made alone -/
def Since (B Lg : Addr) (s₀ s : Shared) : Prop :=
  ∃ h tk, s = { s₀ with heap := h, toks := tk } ∧ ∀ b o, b < B → b ≠ Lg → s₀.heap.get? b = some o → h.get? b = some o
theorem Since.refl (B Lg : Addr) (s : Shared) : Since B Lg s s := ⟨s.heap, s.toks, rfl, fun _ _ _ _ e => e⟩
theorem Since.step {B Lg : Addr} {s₀ s : Shared} (x : Since B Lg s₀ s) {h : Heap} {tk : Nat} (k : ∀ b o, b < B → b ≠ Lg → s.heap.get? b = some o → h.get? b = some o) :
    Since B Lg s₀ { s with heap := h, toks := tk } := by
  obtain ⟨h₁, tk₁, rfl, k₁⟩ := x
  exact ⟨h, tk, rfl, fun b o hb hL e => k b o hb hL (k₁ b o hb hL e)⟩

/-- what the one that asks may have done between a yield and the next wake -/
def Host (L td : Addr) (s s'' : Shared) : Prop := ∀ b o, b ≠ L → b ≠ td → s.heap.get? b = some o → s''.heap.get? b = some o

/-- the last size goes on without end -/
def Endless (zs : List Int) : Prop := 0 < (pre zs).length ∧ zs[(pre zs).length]? = some 0

def YP (zs : List Int) (N : Nat) (B Lg L td : Addr) : Protocol := fun m s₀ v s kap =>
  m = 0 ∨ (Since B Lg s₀ s ∧ (∃ t, v = .int (V zs (N - 1 - m)) t) ∧ (N - 1 - m < (pre zs).length ∨ Endless zs) ∧ ∀ s'', Host L td s s'' → kap (.send .none) s'')

/-- a ValueError has left the generator -/
def Raised (B Lg : Addr) (outer : List Env) (s₀ : Shared) (r : Result) (s : Shared) : Prop :=
  ∃ e a0 Bh h tk, r = .error (.ref e) ∧ s = { s₀ with heap := h, toks := tk } ∧ Heap.FlyingW Bh outer e (.type "ValueError") a0 h ∧
    (∀ b o, b < B → b ≠ Lg → b ∉ outer.filterMap (·.frame) → s₀.heap.get? b = some o → Bh.get? b = some o) ∧
    (∀ b o, b < B → b ≠ Lg → s₀.heap.get? b = some o → (∀ vs, o.data ≠ .fields vs) → ∃ sl, h.get? b = some { o with slots := sl })

def RP (zs : List Int) (N : Nat) (B Lg : Addr) (outer : List Env) : GenEnd := fun n s₀ r s =>
  (r = .ok (.ret .none) ∧ Since B Lg s₀ s ∧ N - n = (pre zs).length ∧ zs[N - n]? ≠ some 0) ∨
  (N - n = 0 ∧ zs[0]? = some 0 ∧ Raised B Lg outer s₀ r s)

section
variable {prog : Program} {w : World} {A : Around} {zs : List Int} {N : Nat} {B Lg L td : Addr} {base : Heap} {outer : List Env} {fa : Addr} {cd : Value}

/-- the while loop that yields the last size without end -/
theorem seg_C {v : Int} {t : Tok} (hE : Endless zs) (hL : L ≠ Lg) (htd : td ≠ Lg) (hLb : base.get? L = none) (htdb : base.get? td = none) {fs : List Frame} (hfs : splitAtGen fs = none) (hfg : fs.any Frame.guarded = false) :
    ∀ (n : Nat) (s₀ s : Shared) (m : Str → Option Value), Fr base Lg s.heap m → m sLast = some (.int v t) → Since B Lg s₀ s → (∀ j, N - n ≤ j → V zs j = v) →
      Seg (model prog w) A (RP zs N B Lg outer) (YP zs N B Lg L td) n s₀ (.whileLoop (targetOf gwhile) gwb [] (genv Lg fa cd))
        ((model prog w).den (.whileLoop (targetOf gwhile) gwb [] (genv Lg fa cd))) fs s := by
  intro n
  induction n with
  | zero =>
    intro s₀ s m F hm hs hV
    refine seg_whileLoop (isTrue_plain (Constant_bool (wpAny_truthy_bool ?_)) rfl)
    rw [if_pos rfl]
    refine seg_execs_cons (seg_ExprYield hfs rfl hfg (ld F hm ?_))
    intro kap _
    exact .inl rfl
  | succ n ih =>
    intro s₀ s m F hm hs hV
    refine seg_whileLoop (isTrue_plain (Constant_bool (wpAny_truthy_bool ?_)) rfl)
    rw [if_pos rfl]
    refine seg_execs_cons (seg_ExprYield hfs rfl hfg (ld F hm ?_))
    intro kap hkap
    refine .inr ⟨hs, ⟨t, ?_⟩, .inr hE, fun s'' hH => hkap s'' ?_⟩
    · rw [hV _ (by omega)]
    · refine seg_again rfl (ih s'' s'' m ⟨?_, ?_, F.above⟩ hm (Since.refl ..) fun j hj => hV j (by omega))
      · exact F.ns.at' fun o e => hH _ o hL.symm htd.symm e
      · exact fun b o e => hH b o (fun q => by rw [q, hLb] at e; cases e) (fun q => by rw [q, htdb] at e; cases e) (F.keep b o e)
end

/-- what the generator needs of the module's names -/
structure GNames (base : Heap) (mg mb : Str → Option Value) : Prop where
  g : base.Ns mainGlobals mg
  b : base.Ns builtinsNs mb
  cm : ∃ t, mg (Str.ofString "CHAR_MAX") = some (.int 127 t)
  ve : mg (Str.ofString "ValueError") = none
  veb : mb (Str.ofString "ValueError") = some (.type "ValueError")

section
variable {M : Model} {A : Around} {E : Value → Shared → Prop} {s : Shared}

theorem noteFrame_made {base h : Heap} {env : Env} {outer : List Env} {L e : Addr} {cls : String} {args : List Value} {Q : Unit → Shared → Prop}
    (hfr : A.frames = some (env :: outer)) (hf : env.frame = some L) (hkb : base.StaysIn h) (hl : h.FunFrames base (env :: outer)) (hx : Heap.MadeExc h s.heap e cls args)
    (hQ : ∀ h' t, Heap.HeldW base (env :: outer) e (.type cls) (.ref t) L h' → s.heap.UpToSlots h' → Q () { s with heap := h' }) : wpAny M A (noteFrame (.ref e) env) Q E s := by
  obtain ⟨t, he, htn, ht⟩ := hx.there
  have fresh : ∀ b, h.get? b = none → base.get? b = none := fun b hb => by
    cases hq : base.get? b with
    | none => rfl
    | some o' => have := hkb b o' hq; rw [hb] at this; cases this
  unfold noteFrame
  simp only [hf]
  refine wpAny_bind (wpAny_field he rfl (x := .none) rfl ?_)
  rw [if_neg (by decide)]
  refine wpAny_entryW (a0 := .ref t) hfr (hl.of_keeps fun b o hb _ => ⟨o, hx.keeps b o hb, rfl⟩) hf he (fun b o hb => hx.keeps b o (hkb b o hb)) (fresh e hx.new) rfl (by simp) rfl fun h' hN => ?_
  obtain ⟨k1, k2, k3, k4⟩ := hN
  exact hQ h' t ⟨k1, fresh e hx.new, k2, k3⟩ k4

theorem cameBack_held {base : Heap} {env : Env} {l : List Env} {e L : Addr} {cls a0 : Value} {Q : Unit → Shared → Prop} (hf : env.frame = some L) (hh : Heap.HeldW base l e cls a0 L s.heap)
    (hQ : ∀ h', Heap.HeldW base l e cls a0 L h' → s.heap.UpToSlots h' → Q () { s with heap := h' }) :
    wpAny M A (do
      if (← field (.ref e) 1) == Value.none then unsupported "frame.own-activation:exception-without-traceback"
      setFlight (.ref e) env.frame) Q E s := by
  obtain ⟨hkb, hen, hl, oe, vs, T, oT, ts, he, hcls, hd, h1, hnT, hTe, hT, hdT, h3⟩ := hh
  have hsz3 : 3 < ts.size := (Array.getElem?_eq_some_iff.mp h3).1
  have other : ∀ b, b ≠ T → (s.heap.update T (Obj.mapFields (·.setIfInBounds 3 ((some L).elim Value.none fun f => rawInt f)))).get? b = s.heap.get? b :=
    fun b hb => Heap.get?_update_other _ _ (Ne.symm hb)
  have noRecord : ∀ b o, s.heap.get? b = some o → (∀ vs, o.data ≠ .fields vs) → b ≠ T := fun b o hb hnf q => by
    rw [q, hT] at hb; injection hb with hb; subst hb; exact hnf ts hdT
  refine wpAny_bind (wpAny_field he hd h1 ?_)
  rw [if_neg (show ¬ ((Value.ref T == Value.none) = true) from Bool.false_ne_true), hf]
  unfold setFlight
  refine wpAny_bind (wpAny_field he hd h1 ?_)
  rw [if_pos (show (Value.ref T != Value.none) = true from by simp)]
  refine wpAny_setField hT hdT hsz3 (hQ _ ⟨fun b o hbo => (other b fun q => by rw [q, hnT] at hbo; cases hbo).trans (hkb b o hbo), hen,
    hl.of_keeps fun b o hb hnf => ⟨o, (other b (noRecord b o hb hnf)).trans hb, rfl⟩, ?_⟩ fun b o hb hnf => ⟨o.slots, (other b (noRecord b o hb hnf)).trans hb⟩)
  exact ⟨oe, vs, T, _, _, (other e (Ne.symm hTe)).trans he, hcls, hd, h1, hnT, hTe, Heap.get?_update_self _ hT (Obj.isFreed_of_fields (Obj.data_mapFields hdT _)), Obj.data_mapFields hdT _, by simp [hsz3]⟩

theorem leaving_held {base : Heap} {env : Env} {outer : List Env} {L e : Addr} {cls a0 : Value} {Q : Unit → Shared → Prop} (hf : env.frame = some L)
    (hh : Heap.HeldW base (env :: outer) e cls a0 L s.heap) (hQ : ∀ h', Heap.FlyingW base outer e cls a0 h' → s.heap.UpToSlots h' → Q () { s with heap := h' }) : wpAny M A (leaving env (.ref e)) Q E s := by
  unfold leaving
  refine wpAny_bind (wpAny_noteFrame_againW hf hh.2.2.2 ?_)
  refine wpAny_landsW hh fun h' hfl hu => ?_
  obtain ⟨k1, k2, ⟨_, _, k3⟩, k4⟩ := hfl
  exact hQ h' ⟨k1, k2, k3, k4⟩ hu
end

/-- what stands behind the generator's for loop -/
def KR : Flow → Sem Fin := fun f => .pure (.done (.ret (match f with | .ret v => v | _ => .none)))
def KG (env : Env) : Flow → Sem Fin := fun f => match f with | .next => (execs [] env).wrap KR (HL env) id id | f => KR f
abbrev fsG (Lg fa : Addr) (cd : Value) (p : Pos) : List Frame :=
  [.ret (KO (genv Lg fa cd) (KG (genv Lg fa cd)) (HL (genv Lg fa cd)) id id) none (id false) (id []) (.func gbody (genv Lg fa cd)) p []]

section
variable {prog : Program} {w : World} {A : Around} {zs : List Int} {N : Nat} {B Lg L td : Addr} {base : Heap} {outer : List Env} {fa : Addr} {cd : Value}

/-- a raise in the loop's body leaves the generator -/
theorem seg_raised {it : Addr} {p : Pos} {s₀ s : Shared} {h : Heap} {e : Addr} {args : List Value} {n : Nat} {Y : Protocol} (hfr : A.frames = some outer)
    (hl : h.FunFrames base (genv Lg fa cd :: outer)) (hx : Heap.MadeExc h s.heap e "ValueError" args)
    (hk : ∀ b o, b < B → b ≠ Lg → s₀.heap.get? b = some o → h.get? b = some o) (hn : N - n = 0) (hz : zs[0]? = some 0)
    (hs : ∃ h tk, s = { s₀ with heap := h, toks := tk }) :
    Seg (model prog w) A (RP zs N B Lg outer) Y n s₀ (.forLoop (targetOf gfor) (.ref it) gfb [] (genv Lg fa cd)) (HF (genv Lg fa cd) (.ref e)) (fsG Lg fa cd p) s := by
  have hfr' : (A.over (.forLoop (targetOf gfor) (.ref it) gfb [] (genv Lg fa cd)) (fsG Lg fa cd p)).frames = some (genv Lg fa cd :: outer) := by
    unfold Around.over; dsimp only
    rw [hfr]; rfl
  have hl' := funFrames_hide (as := (genv Lg fa cd :: outer).filterMap (·.frame)) hl fun env he a ha => List.mem_filterMap.mpr ⟨env, he, ha⟩
  unfold HF
  refine seg_wrap (wpAny_bind (noteFrame_made (L := Lg) hfr' rfl (fun b o q => of_hideAll _ q) hl' hx fun h₁ t H₁ u₁ => wpAny_theTreesLotGoes ?_))
  refine seg_leaf (.error (.ref e)) ?_
  unfold KO
  show Seg _ _ _ _ _ _ _ (Sem.wrap _ _ _ _ ((_ : Sem Unit).bind fun _ => (.raise (.ref e) : Sem Flow))) _ _
  rw [Sem.bind_eq_wrap, Sem.wrap_wrap]
  refine seg_wrap (cameBack_held (L := Lg) rfl H₁ fun h₂ H₂ u₂ => ?_)
  show Seg _ _ _ _ _ _ _ (HL (genv Lg fa cd) (.ref e)) _ _
  unfold HL
  refine seg_wrap (leaving_held (L := Lg) rfl H₂ fun h₃ H₃ u₃ => ?_)
  have u : h.UpToSlots h₃ := (((Heap.UpToSlots.of_keeps hx.keeps).trans u₁).trans u₂).trans u₃
  obtain ⟨h', tk, rfl⟩ := hs
  refine seg_end (.error (.ref e)) (.inr ⟨hn, hz, e, .ref t, _, h₃, tk, rfl, rfl, H₃, fun b o hb hL hf hg => ?_, fun b o hb hL hg hd => u b o (hk b o hb hL hg) hd⟩)
  refine hideAll_get _ (hk b o hb hL hg) fun hm => ?_
  rcases List.mem_filterMap.mp hm with ⟨env, he, hfe⟩
  rcases List.mem_cons.mp he with rfl | he
  · exact hL (Option.some.inj hfe).symm
  · exact hf (List.mem_filterMap.mpr ⟨env, he, hfe⟩)
end

theorem funFrames_at {h h' base : Heap} : ∀ {l : List Env}, h.FunFrames base l → (∀ b ∈ l.filterMap (·.frame), ∀ o, h.get? b = some o → h'.get? b = some o) → h'.FunFrames base l
  | [], _, _ => trivial
  | env :: rest, ⟨hk, ⟨L, o, hf, hn, ho, hd⟩, hr⟩, k =>
    ⟨hk, ⟨L, o, hf, hn, k L (List.mem_filterMap.mpr ⟨env, List.mem_cons_self .., hf⟩) o ho, hd⟩, funFrames_at hr fun b hb => k b (by
      obtain ⟨e, he, hfe⟩ := List.mem_filterMap.mp hb
      exact List.mem_filterMap.mpr ⟨e, List.mem_cons_of_mem _ he, hfe⟩)⟩

/-- a local's store, with all that stays -/
theorem stS {M : Model} {A : Around} {E : Value → Shared → Prop} {s : Shared} {name : Str} {scope : Scope} {L a : Addr} {cd : Value} {h₀ : Heap} {m : Str → Option Value}
    {x : Str} {v : Value} {Q : Unit → Shared → Prop} (F : Fr h₀ L s.heap m)
    (h : ∀ h', Fr h₀ L h' (fun y => if y = x then some v else m y) → Heap.SameBut L s.heap h' → Q () { s with heap := h', toks := s.toks + 1 })
    (hk : scope.kind = .function := by rfl) (hl : (envOf name scope L a cd).kindOf x = some .local := by rfl) :
    wpAny M A (storeName (envOf name scope L a cd) x v) Q E s :=
  wpAny_storeName_local hl F.ns (fun h' hn hs => h h' (F.set hn hs) hs)
    (by show (scope.kind == .class || (scope.kind == .module && L != mainGlobals)) = false; rw [hk]; rfl)

/-- what last_interval holds ahead of turn i -/
def LastIs (zs : List Int) : Nat → Option Value → Prop
  | 0, x => x = some .none
  | i + 1, x => ∃ t, x = some (.int ((pre zs).getD i 0) t)

section
variable {prog : Program} {w : World} {A : Around} {zs : List Int} {N : Nat} {B Lg L td sz : Addr} {base : Heap} {outer : List Env} {fa : Addr} {cd : Value} {mg mb : Str → Option Value} {vs : List Value}

/-- the two tests at the head of a turn: the item against 127 -/
theorem test127 {A' : Around} {E : Value → Shared → Prop} {s : Shared} {m : Str → Option Value} {z : Int} {t : Tok} {p1 p2 p3 : Pos} {Q : Bool → Shared → Prop} {whole : Sem Value}
    (GN : GNames base mg mb) (F : Fr base Lg s.heap m) (hm : m sInt = some (.int z t)) (h : Q (z == 127) s) :
    wpAny (model prog w) A' (isTrue (.Compare (.Name sInt p1) [.Eq] [.Name (Str.ofString "CHAR_MAX") p2] p3) (genv Lg fa cd) whole) Q E s := by
  obtain ⟨u, hu⟩ := GN.cm
  exact wpAny_isTrue_Compare1 (ld F hm (Name_function_global (env := genv Lg fa cd) rfl rfl (loadGlobal_global (env := genv Lg fa cd) (GN.g.keeps F.keep) hu (eq_int (wpAny_truthy_bool h)))))
theorem test0 {A' : Around} {E : Value → Shared → Prop} {s : Shared} {m : Str → Option Value} {z : Int} {t : Tok} {p1 p2 p3 : Pos} {k : Nat} {Q : Bool → Shared → Prop} {whole : Sem Value}
    (F : Fr base Lg s.heap m) (hm : m sInt = some (.int z t)) (h : Q (z == 0) { s with toks := s.toks + 1 }) :
    wpAny (model prog w) A' (isTrue (.Compare (.Name sInt p1) [.Eq] [.Constant (.int 0) k p2] p3) (genv Lg fa cd) whole) Q E s :=
  wpAny_isTrue_Compare1 (ld F hm (wpAny_Constant_int (eq_int (wpAny_truthy_bool h))))
theorem testNone {A' : Around} {E : Value → Shared → Prop} {s : Shared} {m : Str → Option Value} {v : Value} {p1 p2 p3 : Pos} {k : Nat} {Q : Bool → Shared → Prop} {whole : Sem Value}
    (F : Fr base Lg s.heap m) (hm : m sLast = some v) (h : Q (v == .none) s) :
    wpAny (model prog w) A' (isTrue (.Compare (.Name sLast p1) [.Is] [.Constant .none k p2] p3) (genv Lg fa cd) whole) Q E s :=
  wpAny_isTrue_Compare1 (ld F hm (Constant_none (is_none_gen (wpAny_truthy_bool h))))

/-- the for loop of the generator, from turn i on -/
theorem seg_T (hh : A.handled = none) (hfr : A.frames = some outer) (GN : GNames base mg mb) (hLgB : Lg < B) (hLB : L < B) (htdB : td < B) (hszB : sz < B) (hL : L ≠ Lg) (htd : td ≠ Lg) (hszLg : sz ≠ Lg) (hszL : sz ≠ L) (hsztd : sz ≠ td)
    (hLb : base.get? L = none) (htdb : base.get? td = none) (hout : ∀ b ∈ outer.filterMap (·.frame), b < B ∧ b ≠ Lg) (hi : IntsAre vs zs) (hN : (pre zs).length + 2 ≤ N) {it : Addr} (hit : B ≤ it) (p : Pos) :
    ∀ (k i : Nat) (s₀ s : Shared) (m : Str → Option Value), (pre zs).length - i = k → i ≤ (pre zs).length → Fr base Lg s.heap m → LastIs zs i (m sLast) → s.heap.IsList sz vs.toArray → s.heap.IsListIter it sz i → Since B Lg s₀ s →
      (i = 0 → s.heap.FunFrames base outer) →
      Seg (model prog w) A (RP zs N B Lg outer) (YP zs N B Lg L td) (N - i) s₀ (.forLoop (targetOf gfor) (.ref it) gfb [] (genv Lg fa cd))
        ((model prog w).den (.forLoop (targetOf gfor) (.ref it) gfb [] (genv Lg fa cd))) (fsG Lg fa cd p) s := by
  have hh' : ∀ c, (A.over c (fsG Lg fa cd p)).handled = none := fun c => hh
  have itLg : it ≠ Lg := Nat.ne_of_gt (Nat.lt_of_lt_of_le hLgB hit)
  have itsz : it ≠ sz := Nat.ne_of_gt (Nat.lt_of_lt_of_le hszB hit)
  have itL : it ≠ L := Nat.ne_of_gt (Nat.lt_of_lt_of_le hLB hit)
  have ittd : it ≠ td := Nat.ne_of_gt (Nat.lt_of_lt_of_le htdB hit)
  have ltit : ∀ b, b < B → b ≠ it := fun b hb => Nat.ne_of_lt (Nat.lt_of_lt_of_le hb hit)
  have hne : sLast ≠ sInt := by decide
  intro k
  induction k with
  | zero =>
    intro i s₀ s m hk hi' F hm hl hI hs h0
    have hin : i = (pre zs).length := by omega
    have baseit : ∀ b o, base.get? b = some o → b ≠ it := fun b o e => ltit b (Nat.lt_of_lt_of_le (Heap.lt_size e) (Nat.le_of_lt (Nat.lt_of_le_of_lt F.above hLgB)))
    have hNi : N - (N - i) = i := by omega
    refine seg_forLoop ?_
    cases hz : zs[i]? with
    | none =>
      have hx : vs.toArray[i]? = none := by
        have h1 := List.getElem?_eq_none_iff.mp hz
        rw [← hi.length] at h1
        simpa using h1
      refine wpAny_pyNext_list_end (hh' _) hI hl hx fun h₁ hs₁ => ?_
      refine seg_leaf (.ok .next) ?_
      refine seg_end (.ok (.ret .none)) (.inl ⟨rfl, hs.step (s := s) (tk := s.toks) fun b o hb _ e => hs₁ b o (ltit b hb) e, by rw [hNi]; exact hin, by rw [hNi, hz]; nofun⟩)
    | some z =>
      obtain ⟨t, hx⟩ := hi.get i z hz
      refine wpAny_pyNext_list_item hI hl (x := .int z t) (by simpa using hx) fun h₁ hI₁ hs₁ => ?_
      have F₁ : Fr base Lg h₁ m := ⟨F.ns.at' fun o e => (hs₁.2 _ itLg.symm).trans e, fun b o e => (hs₁.2 b (baseit b o e)).trans (F.keep b o e), F.above⟩
      refine wpAny_assign_Name (stS (s := { s with heap := h₁ }) F₁ fun h₂ F₂ hs₂ => ?_)
      have k₂ : ∀ b o, b < B → b ≠ Lg → s.heap.get? b = some o → h₂.get? b = some o := fun b o hb hL e => (hs₂.2 b hL).trans ((hs₁.2 b (ltit b hb)).trans e)
      rcases pre_out (hin ▸ hz) with rfl | rfl
      · refine seg_execs_cons (seg_If (test127 GN F₂ (z := 127) (t := t) (by simp) ?_))
        rw [if_pos (by first | decide | rfl)]
        refine seg_execs_cons (seg_exec (wpAny_Return_none ?_))
        refine seg_leaf (.ok (.ret .none)) ?_
        exact seg_end (.ok (.ret .none)) (.inl ⟨rfl, hs.step (s := s) k₂, by rw [hNi]; exact hin, by rw [hNi, hz]; nofun⟩)
      · refine seg_execs_cons (seg_If (test127 GN F₂ (z := 0) (t := t) (by simp) ?_))
        rw [if_neg (by decide)]
        refine seg_execs_nil ?_
        refine seg_execs_cons (seg_If (test0 F₂ (z := 0) (t := t) (by simp) ?_))
        rw [if_pos (by first | decide | rfl)]
        cases i with
        | zero =>
          have hm' : m sLast = some .none := hm
          refine seg_execs_cons (seg_If (testNone (s := { s with heap := h₂, toks := _ }) F₂ (v := .none) ((if_neg hne).trans hm') ?_))
          rw [if_pos (by first | decide | rfl)]
          have hLgb : base.get? Lg = none := by
            cases q : base.get? Lg with
            | none => rfl
            | some o => exact absurd (Nat.lt_of_lt_of_le (Heap.lt_size q) F.above) (Nat.lt_irrefl _)
          have hfun : h₂.FunFrames base (genv Lg fa cd :: outer) := Heap.FunFrames.cons (fun q => nomatch (show ScopeKind.function = ScopeKind.module from q)) rfl F₂.ns hLgb
            (funFrames_at (h0 rfl) fun b hb o e => k₂ b o (hout b hb).1 (hout b hb).2 e)
          refine seg_execs_cons (seg_exec (Raise_madeB PySem.F.excCall_ValueError PySem.F.excRaise_ValueError (hh' _)
            (Name_function_global (env := genv Lg fa cd) rfl rfl (loadGlobal_builtin (env := genv Lg fa cd) (GN.g.keeps F₂.keep) GN.ve (GN.b.keeps F₂.keep) GN.veb ⟨rfl, args_cons (Constant_str (args_nil ⟨by size_fits, fun h' e hm => ?_⟩))⟩))))
          obtain ⟨hs₁', tk₁', rfl, kk⟩ := hs
          exact seg_raised (base := base) hfr hfun hm (fun b o hb hL e => k₂ b o hb hL (kk b o hb hL e)) (by omega) hz ⟨_, _, rfl⟩
        | succ i =>
          obtain ⟨u, hm'⟩ := hm
          refine seg_execs_cons (seg_If (testNone (s := { s with heap := h₂, toks := _ }) F₂ (v := .int ((pre zs).getD i 0) u) ((if_neg hne).trans hm') ?_))
          rw [if_neg (by simp)]
          refine seg_execs_nil ?_
          refine seg_execs_cons (seg_WhileK fun q => ?_)
          refine seg_C ⟨by omega, hin ▸ hz⟩ hL htd hLb htdb rfl rfl _ _ _ _ (v := (pre zs).getD i 0) (t := u) F₂ ((if_neg hne).trans hm') (hs.step (s := s) k₂) fun j hj => ?_
          have h1 : ¬ j < (pre zs).length := by omega
          unfold V
          rw [if_neg h1, ← hin]
          rfl
  | succ k ih =>
    intro i s₀ s m hk hi' F hm hl hI hs h0
    have hlt : i < (pre zs).length := by omega
    have baseit : ∀ b o, base.get? b = some o → b ≠ it := fun b o e => ltit b (Nat.lt_of_lt_of_le (Heap.lt_size e) (Nat.le_of_lt (Nat.lt_of_le_of_lt F.above hLgB)))
    obtain ⟨z, hz, hg, hp⟩ := pre_in hlt
    obtain ⟨t, hx⟩ := hi.get i z hz
    refine seg_forLoop (wpAny_pyNext_list_item hI hl (x := .int z t) (by simpa using hx) fun h₁ hI₁ hs₁ => ?_)
    have F₁ : Fr base Lg h₁ m := ⟨F.ns.at' fun o e => (hs₁.2 _ itLg.symm).trans e, fun b o e => (hs₁.2 b (baseit b o e)).trans (F.keep b o e), F.above⟩
    refine wpAny_assign_Name (stS (s := { s with heap := h₁ }) F₁ fun h₂ F₂ hs₂ => ?_)
    have k₂ : ∀ b o, b < B → b ≠ Lg → s.heap.get? b = some o → h₂.get? b = some o := fun b o hb hL e => (hs₂.2 b hL).trans ((hs₁.2 b (ltit b hb)).trans e)
    have hz1 : (z == 127) = false := by simp only [good, Bool.and_eq_true, Bool.not_eq_true'] at hg; exact hg.1
    have hz0 : (z == 0) = false := by simp only [good, Bool.and_eq_true, Bool.not_eq_true'] at hg; exact hg.2
    refine seg_execs_cons (seg_If (test127 GN F₂ (z := z) (t := t) (by simp) ?_))
    rw [hz1, if_neg (by decide)]
    refine seg_execs_nil ?_
    refine seg_execs_cons (seg_If (test0 F₂ (z := z) (t := t) (by simp) ?_))
    rw [hz0, if_neg (by decide)]
    refine seg_execs_nil ?_
    refine seg_execs_cons (seg_ExprYield rfl rfl rfl (ld (s := { s with heap := h₂, toks := _ }) F₂ (v := .int z t) (by simp) ?_))
    intro kap hkap
    obtain ⟨n, hn⟩ : ∃ n, N - i = n + 1 := ⟨N - i - 1, by omega⟩
    refine .inr ⟨hs.step (s := s) k₂, ⟨t, ?_⟩, .inl (by omega), fun s'' hH => hkap s'' ?_⟩
    · have : N - 1 - (N - i - 1) = i := by omega
      rw [this]; unfold V; rw [if_pos hlt, hp]
    · rw [hn]
      have hn' : n = N - (i + 1) := by omega
      subst hn'
      have F₃ : Fr base Lg s''.heap (fun y => if y = sInt then some (.int z t) else m y) :=
        ⟨F₂.ns.at' fun o e => hH _ o hL.symm htd.symm e, fun b o e => hH b o (fun q => by rw [q, hLb] at e; cases e) (fun q => by rw [q, htdb] at e; cases e) (F₂.keep b o e), F.above⟩
      refine seg_execs_cons (seg_exec (wpAny_Assign_Name (ld F₃ (v := .int z t) (by simp) (stS F₃ fun h₄ F₄ hs₄ => ?_))))
      refine seg_execs_nil ?_
      refine seg_again rfl (ih (i + 1) s'' _ _ (by omega) (by omega) F₄ ⟨t, by rw [hp]; exact if_pos rfl⟩ ?_ ?_ ?_ fun q => by omega)
      · have x1 : h₁.IsList sz vs.toArray := hl.at fun o e => (hs₁.2 sz itsz.symm).trans e
        have x2 : h₂.IsList sz vs.toArray := x1.at fun o e => (hs₂.2 sz hszLg).trans e
        have x3 : s''.heap.IsList sz vs.toArray := x2.at fun o e => hH sz o hszL hsztd e
        exact x3.at fun o e => (hs₄.2 sz hszLg).trans e
      · have x2 : h₂.IsListIter it sz (i + 1) := hI₁.at fun o e => (hs₂.2 it itLg).trans e
        have x3 : s''.heap.IsListIter it sz (i + 1) := x2.at fun o e => hH it o itL ittd e
        exact x3.at fun o e => (hs₄.2 it itLg).trans e
      · exact (Since.refl B Lg s'').step (s := s'') fun b o hb hL e => (hs₄.2 b hL).trans e
end

section
variable {prog : Program} {w : World} {A : Around} {zs : List Int} {N : Nat} {B Lg L td sz : Addr} {base : Heap} {outer : List Env} {fa : Addr} {cd : Value} {mg mb : Str → Option Value} {vs : List Value}

/-- the generator from its start -/
theorem seg_start (hh : A.handled = none) (hfr : A.frames = some outer) (GN : GNames base mg mb) (hLgB : Lg < B) (hLB : L < B) (htdB : td < B) (hszB : sz < B) (hL : L ≠ Lg) (htd : td ≠ Lg) (hszLg : sz ≠ Lg) (hszL : sz ≠ L) (hsztd : sz ≠ td)
    (hLb : base.get? L = none) (htdb : base.get? td = none) (hout : ∀ b ∈ outer.filterMap (·.frame), b < B ∧ b ≠ Lg) (hi : IntsAre vs zs) (hN : (pre zs).length + 2 ≤ N)
    {s : Shared} {m : Str → Option Value} (F : Fr base Lg s.heap m) (hm : m sGrp = some (.ref sz)) (hl : s.heap.IsList sz vs.toArray) (hB : B ≤ s.heap.objs.size) (hff : s.heap.FunFrames base outer) :
    Seg (model prog w) A (RP zs N B Lg outer) (YP zs N B Lg L td) N s (.func gbody (genv Lg fa cd)) ((model prog w).den (.func gbody (genv Lg fa cd))) [] s := by
  refine seg_func (seg_execs_cons (seg_exec (wpAny_Assign_Name (Constant_none (stS F fun h₁ F₁ hs₁ => ?_)))))
  have hl₁ : h₁.IsList sz vs.toArray := hl.at fun o e => (hs₁.2 sz hszLg).trans e
  refine seg_execs_cons (seg_For (ld F₁ (v := .ref sz) ((if_neg (by decide)).trans hm) (wpAny_pyIter_list hl₁ fun p => ?_)))
  have hsz : h₁.objs.size = s.heap.objs.size := hs₁.1
  have hk : ∀ b o, b < B → b ≠ Lg → s.heap.get? b = some o → (h₁.push { cls := .type "list_iterator", data := .fields #[.ref sz, .int 0 0] }).get? b = some o :=
    fun b o _ hb e => Heap.get?_push_of_some _ ((hs₁.2 b hb).trans e)
  refine seg_T hh hfr GN hLgB hLB htdB hszB hL htd hszLg hszL hsztd hLb htdb hout hi hN (it := h₁.objs.size) (by rw [hsz]; exact hB) p _ 0 s _ _ rfl (Nat.zero_le _) (F₁.push _) (if_pos rfl) (hl₁.push _)
    ⟨_, Heap.get?_push_size _ rfl, rfl, rfl⟩ ((Since.refl B Lg s).step (s := s) hk) fun _ => funFrames_at hff fun b hb o e => hk b o (hout b hb).1 (hout b hb).2 e
end

def ldef : Stmt := nth PySem.Challenge.pw_kg0003_01.main.body 4
def lbody : List Stmt := bodyOf ldef
def lscope : Scope := scopeOf ldef
def lgfor : Stmt := nth (bodyOf (nth lbody 4)) 0
def lgb : List Stmt := bodyOf lgfor
abbrev sTold : Str := Str.ofString "told"
abbrev sSize : Str := Str.ofString "size"
abbrev sSizes : Str := Str.ofString "sizes"
abbrev sDue : Str := Str.ofString "due"
abbrev lenv (L fa : Addr) (cd : Value) : Env := envOf (Str.ofString "law") lscope L fa cd

/-- what the law needs of the module's names -/
structure LNames (base : Heap) (mg mb : Str → Option Value) : Prop where
  gn : GNames base mg mb
  len : mg (Str.ofString "len") = none
  lenb : mb (Str.ofString "len") = some (.builtin "len")
  nolimit : base.NoLimit

theorem fr_at {base h h' : Heap} {L : Addr} {m : Str → Option Value} (F : Fr base L h m) (hL : ∀ o, h.get? L = some o → h'.get? L = some o) (k : ∀ b o, base.get? b = some o → h.get? b = some o → h'.get? b = some o) : Fr base L h' m :=
  ⟨F.ns.at' hL, fun b o e => k b o e (F.keep b o e), F.above⟩
theorem fr_none {base h : Heap} {L : Addr} {m : Str → Option Value} (F : Fr base L h m) : base.get? L = none := by
  cases q : base.get? L with
  | none => rfl
  | some o => exact absurd (Nat.lt_of_lt_of_le (Heap.lt_size q) F.above) (Nat.lt_irrefl _)

section
variable {prog : Program} {w : World} {A : Around} {E : Value → Shared → Prop} {L td : Addr} {base : Heap} {fa : Addr} {cd : Value} {mg mb : Str → Option Value}

/-- one append by name -/
theorem append_stmt {s : Shared} {m : Str → Option Value} {x : Str} {d : Addr} {ws : List Value} {n : Nat} {v : Value} {p1 p2 p3 p4 p5 : Pos} {pl : Sem Bool} {Q : Flow → Shared → Prop}
    (F : Fr base L s.heap m) (hx : m x = some (.ref d)) (hv : m sSize = some v) (hd : s.heap.get? d = some (listOf ws.toArray n)) (hdL : d ≠ L) (hdb : base.get? d = none) (hsz : ws.length ≤ 1000)
    (hlx : (lenv L fa cd).kindOf x = some .local) (hdx : (x == ("__debug__" : Str)) = false)
    (h : ∀ h', Fr base L h' m → Heap.SameBut d s.heap h' → h'.get? d = some (listOf (ws ++ [v]).toArray (n + 1)) → Q .next { s with heap := h' })
    (he : eval (.Call (.Attribute (.Name x p1) (Str.ofString "append") p2) [.Name sSize p3] [] p4) (lenv L fa cd) = (do
      let ov ← eval (.Name x p1) (lenv L fa cd)
      standAt p2.atName
      let (f, first) ← holding [ov] (getMethod ov (Str.ofString "append") pl)
      callWith p4 f first (backTo p4 (starEach [.Name sSize p3] (lenv L fa cd))) []) := by rfl) :
    wpAny (model prog w) A (exec (.Expr (.Call (.Attribute (.Name x p1) (Str.ofString "append") p2) [.Name sSize p3] [] p4) p5) (lenv L fa cd)) Q E s := by
  refine wpAny_Expr (MethodCall_ (ld F hx (getMethod_list_append hd rfl rfl (callWith_method1 (args_cons (ld F hv (args_nil ?_))))) rfl hlx hdx) he)
  refine append_at hd (fun h' hs ho' => ?_) (by
    have : sizeLine = 16777216 := sizeLine_eq
    simp only [List.size_toArray]; omega)
  refine h h' ⟨F.ns.at' fun o e => (hs.2 L hdL.symm).trans e, fun b o e => (hs.2 b fun q => by rw [q, hdb] at e; cases e).trans (F.keep b o e), F.above⟩ hs (by simpa using ho')
end

def told (zs : List Int) (j : Nat) : List Int := (List.range j).map (V zs)
theorem told_succ (zs : List Int) (j : Nat) : told zs (j + 1) = told zs j ++ [V zs j] := by
  unfold told; rw [List.range_succ, List.map_append]; rfl
theorem told_length (zs : List Int) (j : Nat) : (told zs j).length = j := by simp [told]

theorem setIf_one (a b : GenState) : (#[a] : Array GenState).setIfInBounds 0 b = #[b] := rfl

section
variable {prog : Program} {w : World} {A : Around} {E : Value → Shared → Prop} {zs : List Int} {N : Nat} {B Lg L td ga : Addr} {base : Heap} {outer : List Env} {fa : Addr} {cd : Value} {mg mb mB : Str → Option Value}

/-- the asking loop between two turns -/
structure HInv (prog : Program) (w : World) (A : Around) (zs : List Int) (N : Nat) (B Lg L td : Addr) (base : Heap) (outer : List Env) (mB : Str → Option Value) (sB : Shared) (j : Nat) (h : Heap) (gs : GenState) (m : Str → Option Value) : Prop where
  bare : gs.bare = true
  fr : Fr base L h m
  frame : ∀ x, x ≠ sSize → m x = mB x
  told : ∃ ws n, h.get? td = some (listOf ws.toArray n) ∧ IntsAre ws (told zs j)
  keep : ∀ b o, b < B → b ≠ L → b ≠ td → b ≠ Lg → sB.heap.get? b = some o → h.get? b = some o
  goes : ∀ s'' : Shared, (∀ b o, b ≠ L → b ≠ td → h.get? b = some o → s''.heap.get? b = some o) → s''.heap.FunFrames base outer → gs.Goes (model prog w) A.in1 (RP zs N B Lg outer) (YP zs N B Lg L td) (N - j) (.send .none) s''
  some_ : j ≤ (pre zs).length ∨ Endless zs

/-- how the loop ends -/
def HEnd (zs : List Int) (B Lg L td : Addr) (base : Heap) (mB : Str → Option Value) (sB : Shared) (s : Shared) : Prop :=
  ∃ h tk gs m ws n j, s = { sB with heap := h, gens := #[gs], toks := tk } ∧ gs.bare = true ∧ Fr base L h m ∧ (∀ x, x ≠ sSize → m x = mB x) ∧ h.get? td = some (listOf ws.toArray n) ∧ IntsAre ws (told zs j) ∧
    (∀ b o, b < B → b ≠ L → b ≠ td → b ≠ Lg → sB.heap.get? b = some o → h.get? b = some o) ∧
    ((j = (pre zs).length ∧ zs[j]? ≠ some 0) ∨ (j = 100 ∧ Endless zs))

theorem host_loop (hh : A.handled = none) (hroom : A.depth < recursionLimit) (LN : LNames base mg mb) (hN : 102 ≤ N) (hpre : (pre zs).length < 100)
    (hLB : L < B) (htdB : td < B) (hgaB : ga < B) (hL : L ≠ Lg) (htdL : td ≠ L) (htd : td ≠ Lg) (hgaL : ga ≠ L) (hgatd : ga ≠ td) (hgaLg : ga ≠ Lg) (htdb : base.get? td = none) (hLgb : base.get? Lg = none) (hgaout : ga ∉ outer.filterMap (·.frame)) (hff : ∀ h m, Fr base L h m → h.FunFrames base outer)
    {sB : Shared} (hgen : sB.heap.IsGen ga 0) (hmt : mB sTold = some (.ref td)) {R : Result → Shared → Prop}
    (hok : ∀ s, HEnd zs B Lg L td base mB sB s → R (.ok .next) s)
    (herr : ∀ s' e h tk gs m, zs[0]? = some 0 → HInv prog w A zs N B Lg L td base outer mB sB 0 h gs m → Raised B Lg outer { sB with heap := h, gens := #[.running], toks := tk } (.error (.ref e)) s' →
      notedBy (model prog w) A (lenv L fa cd) (fun e s' => R (.error e) s') (.ref e) (s'.setGen 0 .finished))
    {h : Heap} {tk : Nat} {gs : GenState} (H : HInv prog w A zs N B Lg L td base outer mB sB 0 h gs mB) :
    codeAny (model prog w) A (.forLoop (targetOf lgfor) (.ref ga) lgb [] (lenv L fa cd)) R { sB with heap := h, gens := #[gs], toks := tk } := by
  refine codeAny_forLoop (fun n s => ∃ j h tk gs m, n = 100 - j ∧ j < 100 ∧ s = { sB with heap := h, gens := #[gs], toks := tk } ∧ HInv prog w A zs N B Lg L td base outer mB sB j h gs m)
    (fun n s hI => ?_) 100 ⟨0, h, tk, gs, mB, rfl, by decide, rfl, H⟩
  obtain ⟨j, h, tk, gs, m, rfl, hj, rfl, H⟩ := hI
  have keepB : ∀ b o, base.get? b = some o → b ≠ L ∧ b ≠ td ∧ b ≠ Lg ∧ b < B := fun b o e =>
    ⟨Nat.ne_of_lt (Nat.lt_of_lt_of_le (Heap.lt_size e) H.fr.above), (fun q => by rw [q, htdb] at e; cases e), (fun q => by rw [q, hLgb] at e; cases e), Nat.lt_trans (Nat.lt_of_lt_of_le (Heap.lt_size e) H.fr.above) hLB⟩
  have hg : h.IsGen ga 0 := by
    obtain ⟨o, nm, qn, ho, r⟩ := hgen
    exact ⟨o, nm, qn, H.keep ga o hgaB hgaL hgatd hgaLg ho, r⟩
  refine pyNext_gen (g := 0) (n := N - j) (gs := gs) hh (LN.nolimit.keeps H.fr.keep) hroom hg rfl (H.goes _ (fun b o _ _ e => e) (hff _ _ H.fr)) (fun v s₁ gs' hb hY => ?_) (fun r s₁ hR => ?_)
  · rcases hY with h0 | ⟨⟨h₁, tk₁, rfl, k₁⟩, ⟨t, rfl⟩, hE, hk⟩
    · omega
    have hidx : N - 1 - (N - j - 1) = j := by omega
    rw [hidx] at hE ⊢
    have k₁' : ∀ b o, b < B → b ≠ Lg → h.get? b = some o → h₁.get? b = some o := k₁
    have F₁ : Fr base L h₁ m := fr_at H.fr (fun o e => k₁' L o hLB hL e) fun b o eb e => k₁' b o (keepB b o eb).2.2.2 (keepB b o eb).2.2.1 e
    refine wpAny_assign_Name (stS F₁ fun h₂ F₂ hs₂ => ?_)
    obtain ⟨ws, nn, ht, hws⟩ := H.told
    have ht₂ : h₂.get? td = some (listOf ws.toArray nn) := (hs₂.2 td htdL).trans (k₁' td _ htdB htd ht)
    have hm₂ : (if sTold = sSize then some (Value.int (V zs j) t) else m sTold) = some (.ref td) := by
      rw [if_neg (by decide), H.frame _ (by decide)]; exact hmt
    have hlen : ws.length = j := by rw [hws.length, told_length]
    refine wpAny_execs_cons (append_stmt F₂ (x := sTold) (v := .int (V zs j) t) hm₂ (if_pos rfl) ht₂ htdL htdb (by omega) rfl (by decide) fun h₃ F₃ hs₃ ht₃ => ?_)
    have hlen' : ((ws ++ [Value.int (V zs j) t]).toArray.size : Int) = (j : Int) + 1 := by simp [hlen]
    refine wpAny_execs_cons (wpAny_If (wpAny_isTrue_Compare1 (Call_ (Name_function_global (env := lenv L fa cd) rfl rfl (loadGlobal_builtin (env := lenv L fa cd) (LN.gn.g.keeps F₃.keep) LN.len (LN.gn.b.keeps F₃.keep) LN.lenb
      (callWith_builtin1 (args_cons (ld F₃ (x := sTold) hm₂ (args_nil (len_list ⟨_, ht₃, rfl, _, rfl⟩ (by rw [hlen']; omega) ?_))))))))))
    refine wpAny_Constant_int (eq_int (wpAny_truthy_bool ?_))
    have keep₃ : ∀ b o, b < B → b ≠ L → b ≠ td → b ≠ Lg → sB.heap.get? b = some o → h₃.get? b = some o := fun b o h1 h2 h3 h4 e =>
      (hs₃.2 b h3).trans ((hs₂.2 b h2).trans (k₁' b o h1 h4 (H.keep b o h1 h2 h3 h4 e)))
    have hws' : IntsAre (ws ++ [Value.int (V zs j) t]) (told zs (j + 1)) := by
      rw [told_succ]; exact hws.append (.cons _ _ .nil)
    have hfr' : ∀ x, x ≠ sSize → (if x = sSize then some (Value.int (V zs j) t) else m x) = mB x := fun x hx => by rw [if_neg hx]; exact H.frame x hx
    rw [hlen']
    by_cases h100 : j + 1 = 100
    · rw [if_pos (by rw [beq_iff_eq]; omega)]
      refine wpAny_execs_cons (wpAny_Break ?_)
      refine hok _ ⟨h₃, _, gs', _, _, _, 100, rfl, hb, F₃, hfr', ht₃, h100 ▸ hws', keep₃, .inr ⟨rfl, ?_⟩⟩
      rcases hE with h1 | h1
      · omega
      · exact h1
    · rw [if_neg (by rw [beq_iff_eq]; omega)]
      refine wpAny_execs_nil ?_
      refine wpAny_execs_nil ?_
      refine ⟨100 - (j + 1), by omega, j + 1, h₃, _, gs', _, rfl, by omega, rfl, ⟨hb, F₃, hfr', ⟨_, _, ht₃, hws'⟩, keep₃, fun s'' hs'' _ => ?_, ?_⟩⟩
      · have hn : N - j = (N - (j + 1)) + 1 := by omega
        rw [hn] at hk
        exact hk s'' fun b o h1 h2 e => hs'' b o h1 h2 ((hs₃.2 b h2).trans ((hs₂.2 b h1).trans e))
      · rcases hE with h1 | h1
        · exact .inl h1
        · exact .inr h1
  · rcases hR with ⟨rfl, hS, hn, hz⟩ | ⟨hn, hz, hR⟩
    · left
      refine ⟨rfl, fun h' hk' => ?_⟩
      obtain ⟨h₁, tk₁, rfl, k₁⟩ := hS
      have k₁' : ∀ b o, b < B → b ≠ Lg → h.get? b = some o → h'.get? b = some o := fun b o h1 h2 e => hk' b o (k₁ b o h1 h2 e)
      have hidx : N - (N - j) = j := by omega
      rw [hidx] at hn hz
      obtain ⟨ws, nn, ht, hws⟩ := H.told
      refine wpAny_execs_nil ?_
      exact hok _ ⟨h', _, .finished, m, ws, nn, j, rfl, rfl, fr_at H.fr (fun o e => k₁' L o hLB hL e) (fun b o eb e => k₁' b o (keepB b o eb).2.2.2 (keepB b o eb).2.2.1 e), H.frame,
        k₁' td _ htdB htd ht, hws, fun b o h1 h2 h3 h4 e => k₁' b o h1 h4 (H.keep b o h1 h2 h3 h4 e), .inl ⟨hn, hz⟩⟩
    · right
      have hidx : N - (N - j) = j := by omega
      rw [hidx] at hn
      subst hn
      obtain ⟨e, a0, Bh, h₁, tk₁, rfl, rfl, hfl, kB, kS⟩ := id hR
      refine ⟨e, rfl, ?_, ?_, herr _ e h tk gs m hz H hR⟩
      · obtain ⟨o, nm, qn, ho, r⟩ := hg
        exact ⟨o, nm, qn, hfl.1 ga o (kB ga o hgaB hgaLg hgaout ho), r⟩
      · obtain ⟨ob, ho, hc⟩ := hfl.there
        exact ⟨ob, ho, hc⟩
end

def paramsOf : Stmt → Arguments
  | .FunctionDef _ p _ _ _ _ _ _ _ _ => p
  | _ => ⟨[], [], none, [], [], none, []⟩
def gparams : Arguments := paramsOf gdef
def ltry : Stmt := nth lbody 4

/-- how the try statement goes on -/
def TEnd (zs : List Int) (L td : Addr) (base : Heap) (m₀ : Str → Option Value) (s₀ : Shared) (s : Shared) : Prop :=
  ∃ h tk gs m ws n j, s = { s₀ with heap := h, gens := #[gs], toks := tk } ∧ gs.bare = true ∧ Fr base L h m ∧ (∀ x, x ≠ sSize → m x = m₀ x) ∧ h.get? td = some (listOf ws.toArray n) ∧ IntsAre ws (told zs j) ∧
    (∀ b o, b ≠ L → b ≠ td → s₀.heap.get? b = some o → h.get? b = some o) ∧
    ((j = (pre zs).length ∧ zs[j]? ≠ some 0) ∨ (j = 100 ∧ Endless zs))

section
variable {prog : Program} {w : World} {A : Around} {E : Value → Shared → Prop} {zs : List Int} {L td sz : Addr} {base : Heap} {fa fg : Addr} {cd cg pm doc : Value} {og : Obj} {mg mb m : Str → Option Value} {vs : List Value} {n0 : Nat}

/-- the call of the generator function -/
theorem call_gen {s : Shared} {Q : Value → Shared → Prop} (hroom : A.depth < recursionLimit) (hfo : s.heap.get? fg = some og)
    (hfd : og.data = .func (docDef (Str.ofString "_grouping_intervals") gparams gbody gscope pm cg doc)) (hcd : s.heap.CodeRec cg (Str.ofString "_grouping_intervals")) (hl : s.heap.NoLimit)
    (h : ∀ h' tk, h'.Ns s.heap.objs.size (fun x => [(sGrp, Value.ref sz)].reverse.lookup x) → h'.IsGen (s.heap.objs.size + 1) s.gens.size → h'.objs.size = s.heap.objs.size + 2 →
      (∀ b o, s.heap.get? b = some o → h'.get? b = some o) →
      Q (.ref (s.heap.objs.size + 1)) { s with heap := h', gens := s.gens.push (.fresh (.func gbody (genv s.heap.objs.size fg cg))), toks := tk }) :
    wpAny (model prog w) A (call (.ref fg) [.ref sz]) Q E s := by
  refine wpAny_call (codeAny_call_generator hroom hfo hfd rfl rfl rfl hcd ?_)
  refine wpAny_of_eq (a := [(sGrp, .ref sz)]) (by rfl) ?_
  refine wpAny_newFunctionEnv (show ∀ x ∈ gscope.names, x.2 ≠ .cell by decide) (by intro x hx; rw [List.mem_singleton.mp hx]; rfl) (fun h' hns hsb => ⟨hl.fresh _ hsb, ?_⟩) rfl
  have hsize : h'.objs.size = s.heap.objs.size + 1 := by rw [hsb.1, Heap.size_push]
  have keep : ∀ b o, s.heap.get? b = some o → h'.get? b = some o := fun b o e => hsb.extBut b o (Nat.ne_of_lt (Heap.lt_size e)) (Heap.get?_push_of_some _ e)
  show Q (.ref h'.objs.size) _
  rw [hsize]
  refine h _ _ (hns.push _) ?_ (by rw [Heap.size_push, hsize]) fun b o e => Heap.get?_push_of_some _ (keep b o e)
  rw [← hsize]
  exact ⟨_, _, _, Heap.get?_push_size _ rfl, rfl, rfl, rfl⟩
end

section
variable {prog : Program} {w : World} {A : Around} {E : Value → Shared → Prop} {zs : List Int} {L td sz : Addr} {base : Heap} {fa fg : Addr} {cd cg pm doc : Value} {og : Obj} {mg mb m : Str → Option Value} {vs : List Value} {n0 : Nat}

theorem ff_law {h : Heap} {m : Str → Option Value} (F : Fr base L h m) : h.FunFrames base [lenv L fa cd] :=
  Heap.FunFrames.cons (fun q => nomatch (show ScopeKind.function = ScopeKind.module from q)) rfl F.ns (fr_none F) trivial

/-- the suite of the except clause -/
theorem handler_suite {A' : Around} {s : Shared} {Q : Flow → Shared → Prop} {p1 p2 p3 p4 p5 p6 : Pos} {k1 k2 : Nat} (F : Fr base L s.heap m) (hms : m sSizes = some (.ref sz)) (hsz : s.heap.IsList sz vs.toArray) (hi : IntsAre vs zs) (hz : zs[0]? = some 0)
    (h : ∀ tk, Q (.ret (.bool true)) { s with toks := tk }) :
    wpAny (model prog w) A' (execs [.Return (some (.Compare (.Subscript (.Name sSizes p1) (.Constant (.int 0) k1 p2) p3) [.Eq] [.Constant (.int 0) k2 p4] p5)) p6] (lenv L fa cd)) Q E s := by
  obtain ⟨t, hx⟩ := hi.get 0 0 hz
  refine wpAny_execs_cons (wpAny_Return_some (wpAny_Compare1 (Subscript_ (ld F hms (wpAny_Constant_int ?_)))))
  refine item_listL (s := { s with toks := _ }) hsz (by decide) (by decide) (x := .int 0 t) hx ?_
  exact wpAny_Constant_int (eq_int (h _))

theorem try_stmt {s : Shared} {Q : Flow → Shared → Prop} (hh : A.handled = none) (hfr : A.frames = some [lenv L fa cd]) (hroom : A.depth < recursionLimit) (LN : LNames base mg mb)
    (hf : mg (Str.ofString "_grouping_intervals") = some (.ref fg)) (hfo : base.get? fg = some og)
    (hfd : og.data = .func (docDef (Str.ofString "_grouping_intervals") gparams gbody gscope pm cg doc)) (hcd : base.CodeRec cg (Str.ofString "_grouping_intervals"))
    (F : Fr base L s.heap m) (hms : m sSizes = some (.ref sz)) (hmt : m sTold = some (.ref td)) (hgens : s.gens = #[])
    (hsz : s.heap.IsList sz vs.toArray) (hi : IntsAre vs zs) (htd : s.heap.get? td = some (listOf #[] n0)) (hszL : sz ≠ L) (htdL : td ≠ L) (hsztd : sz ≠ td) (htdb : base.get? td = none) (hpre : (pre zs).length < 100)
    (hok : ∀ s', TEnd zs L td base m s s' → Q .next s')
    (hret : ∀ s', (∀ b o, base.get? b = some o → s'.heap.get? b = some o) → s'.os = s.os → s'.gens = #[.finished] → Q (.ret (.bool true)) s') :
    wpAny (model prog w) A (exec ltry (lenv L fa cd)) Q E s := by
  obtain ⟨hp, gns, dr, tks, os⟩ := s
  obtain rfl : gns = #[] := hgens
  have hLlt : L < hp.objs.size := F.ns.lt
  have htdlt : td < hp.objs.size := Heap.lt_size htd
  have hszlt : sz < hp.objs.size := let ⟨_, ho, _⟩ := hsz; Heap.lt_size ho
  have hLgb : base.get? hp.objs.size = none := by
    cases q : base.get? hp.objs.size with
    | none => rfl
    | some o => exact absurd (Heap.lt_size (F.keep _ o q)) (Nat.lt_irrefl _)
  refine wpAny_Try_except (wpAny_execs_cons (wpAny_For (Call_ (Name_function_global (env := lenv L fa cd) rfl rfl (loadGlobal_global (env := lenv L fa cd) (LN.gn.g.keeps F.keep) hf
    (callWith_def hfd (args_cons (ld F hms (args_nil ⟨F.keep _ _ hfo, ?_⟩)))))))))
  refine call_gen hroom (F.keep _ _ hfo) hfd (hcd.keeps F.keep) (LN.nolimit.keeps F.keep) fun h₅ tk hns hgen hsize keep => ?_
  refine wpAny_pyIter_gen hgen ?_
  have F₅ : Fr base L h₅ m := ⟨F.ns.keeps keep, fun b o e => keep b o (F.keep b o e), F.above⟩
  have hl₅ : h₅.IsList sz vs.toArray := hsz.at fun o e => keep sz o e
  have FG : Fr base hp.objs.size h₅ (fun x => [(sGrp, Value.ref sz)].reverse.lookup x) := ⟨hns, F₅.keep, Nat.le_of_lt (Nat.lt_of_le_of_lt F.above hLlt)⟩
  have gaL : hp.objs.size + 1 ≠ L := Nat.ne_of_gt (Nat.lt_succ_of_lt hLlt)
  have gatd : hp.objs.size + 1 ≠ td := Nat.ne_of_gt (Nat.lt_succ_of_lt htdlt)
  refine host_loop (zs := zs) (N := 102) (B := hp.objs.size + 2) (Lg := hp.objs.size) (td := td) (ga := hp.objs.size + 1) (outer := [lenv L fa cd]) (mB := m)
    (sB := { heap := h₅, gens := #[.fresh (.func gbody (genv hp.objs.size fg cg))], drawn := dr, toks := tk, os := os })
    hh hroom LN (Nat.le_refl _) hpre (Nat.lt_succ_of_lt (Nat.lt_succ_of_lt hLlt)) (Nat.lt_succ_of_lt (Nat.lt_succ_of_lt htdlt)) (Nat.lt_succ_self _) (Nat.ne_of_lt hLlt) htdL (Nat.ne_of_lt htdlt) gaL gatd (Nat.ne_of_gt (Nat.lt_succ_self _)) htdb hLgb
    (by simpa [envOf] using gaL) (fun h m F => ff_law F) hgen hmt ?_ ?_ (h := h₅) (tk := tk) (gs := .fresh (.func gbody (genv hp.objs.size fg cg))) ⟨rfl, F₅, fun _ _ => rfl, ⟨[], n0, keep _ _ htd, .nil⟩, fun _ _ _ _ _ _ e => e, fun s'' hk hff => ⟨rfl, ?_⟩, .inl (Nat.zero_le _)⟩
  · rintro s' ⟨h, tk', gs, m', ws, n, j, rfl, hb, F', hfm, ht, hw, hk, hj⟩
    refine wpAny_execs_nil (wpAny_execs_nil (hok _ ⟨h, tk', gs, m', ws, n, j, rfl, hb, F', hfm, ht, hw, fun b o h1 h2 e => ?_, hj⟩))
    have hlt : b < hp.objs.size := Heap.lt_size e
    exact hk b o (Nat.lt_succ_of_lt (Nat.lt_succ_of_lt hlt)) h1 h2 (Nat.ne_of_lt hlt) (keep b o e)
  · rintro s' e h tk' gs m' hz H ⟨e', a0, Bh, h₁, tk₁, hre, rfl, hfl, kB, kS⟩
    obtain rfl : e = e' := Value.ref.inj (Except.error.inj hre)
    have hms' : m' sSizes = some (.ref sz) := (H.frame _ (by decide)).trans hms
    have baseB : ∀ b o, base.get? b = some o → Bh.get? b = some o := fun b o q => by
      have hlt : b < L := Nat.lt_of_lt_of_le (Heap.lt_size q) F.above
      exact kB b o (Nat.lt_succ_of_lt (Nat.lt_succ_of_lt (Nat.lt_trans hlt hLlt))) (Nat.ne_of_lt (Nat.lt_trans hlt hLlt)) (by simpa [envOf] using Nat.ne_of_lt hlt) (H.fr.keep b o q)
    have szB : ∃ o, Bh.get? sz = some o ∧ o.cls = .type "list" ∧ ∃ n, o.data = .seq vs.toArray n := by
      obtain ⟨o, ho, hr⟩ := hl₅
      have h1 := H.keep sz o (Nat.lt_succ_of_lt (Nat.lt_succ_of_lt hszlt)) hszL hsztd (Nat.ne_of_lt hszlt) ho
      exact ⟨o, kB sz o (Nat.lt_succ_of_lt (Nat.lt_succ_of_lt hszlt)) (Nat.ne_of_lt hszlt) (by simpa [envOf] using hszL) h1, hr⟩
    have ns₁ : h₁.Ns L m' := by
      obtain ⟨o, es, ep, ho, hd, r⟩ := H.fr.ns
      obtain ⟨sl, hs⟩ := kS L o (Nat.lt_succ_of_lt (Nat.lt_succ_of_lt hLlt)) (Nat.ne_of_lt hLlt) ho (fun vs q => by rw [hd] at q; cases q)
      exact ⟨_, es, ep, hs, hd, r⟩
    unfold notedBy
    refine wpAny_looks_onW (s := { heap := h₁, gens := #[.finished], drawn := dr, toks := tk₁, os := os }) hfr rfl hfl fun h₂ hh₂ u₂ => ?_
    refine cameBack_held (L := L) (env := lenv L fa cd) rfl hh₂ fun h₃ hh₃ u₃ => ?_
    refine wpAny_noteFrame_againW rfl hh₃.2.2.2 ?_
    refine wpAny_landsW hh₃ fun h₄ hf₄ u₄ => ?_
    have ns₄ : h₄.Ns L m' := u₄.ns (u₃.ns (u₂.ns ns₁))
    have keep₄ : ∀ b o, base.get? b = some o → h₄.get? b = some o := fun b o q => hf₄.1 b o (baseB b o q)
    refine wpAny_handleBy_builtin (X := "ValueError") (T := "ValueError") (b := true) PySem.F.excRaise_ValueError.isExc (by rw [isSubtype_type]; kernel_rfl) (by rw [isSubtype_type]; kernel_rfl) ?_
    refine Name_function_global (env := lenv L fa cd) rfl rfl (loadGlobal_builtin (env := lenv L fa cd) (LN.gn.g.keeps keep₄) LN.gn.ve (LN.gn.b.keeps keep₄) LN.gn.veb ⟨rfl, ?_, ?_⟩)
    · obtain ⟨ob, ho, hc⟩ := hf₄.there
      exact ⟨ob, ho, hc⟩
    rw [if_pos rfl]
    refine lands_againW hf₄ fun h₆ hf₆ u₆ => ?_
    have keep₆ : ∀ b o, base.get? b = some o → h₆.get? b = some o := fun b o q => hf₆.1 b o (baseB b o q)
    have F₆ : Fr base L h₆ m' := ⟨u₆.ns ns₄, keep₆, F.above⟩
    obtain ⟨o, ho, hr⟩ := szB
    exact handler_suite F₆ hms' ⟨o, hf₆.1 sz o ho, hr⟩ hi hz fun tk => hret _ keep₆ rfl rfl
  · have gaS : ∃ o, s''.heap.get? (hp.objs.size + 1) = some o := by
      obtain ⟨o, _, _, ho, _⟩ := hgen
      exact ⟨o, hk _ o gaL gatd ho⟩
    have FG' : Fr base hp.objs.size s''.heap (fun x => [(sGrp, Value.ref sz)].reverse.lookup x) :=
      fr_at FG (fun o e => hk _ o (Nat.ne_of_gt hLlt) (Nat.ne_of_gt htdlt) e) fun b o q e => hk b o (Nat.ne_of_lt (Nat.lt_of_lt_of_le (Heap.lt_size q) F.above)) (fun z => by rw [z, htdb] at q; cases q) e
    exact seg_start (A := A.in1) hh hfr LN.gn (Nat.lt_succ_of_lt (Nat.lt_succ_self _)) (Nat.lt_succ_of_lt (Nat.lt_succ_of_lt hLlt)) (Nat.lt_succ_of_lt (Nat.lt_succ_of_lt htdlt)) (Nat.lt_succ_of_lt (Nat.lt_succ_of_lt hszlt))
      (Nat.ne_of_lt hLlt) (Nat.ne_of_lt htdlt) (Nat.ne_of_lt hszlt) hszL hsztd (fr_none F) htdb
      (by intro b hb; obtain rfl : b = L := by simpa [envOf] using hb
          exact ⟨Nat.lt_succ_of_lt (Nat.lt_succ_of_lt hLlt), Nat.ne_of_lt hLlt⟩)
      hi (by omega) FG' rfl (hl₅.at fun o e => hk sz o hszL hsztd e) (let ⟨_, ho⟩ := gaS; Heap.lt_size ho) hff
end

def valueOf : Stmt → Expr
  | .Assign _ v _ => v
  | _ => .Constant .none 0 default
def eltOf : Expr → Expr
  | .ListComp e _ _ _ => e
  | e => e
def cscopeOf : Expr → Scope
  | .ListComp _ _ sc _ => sc
  | _ => { kind := .function, names := [], isGenerator := false, isCoroutine := false }
def lcomp : Expr := valueOf (nth lbody 0)
def lelt : Expr := eltOf lcomp
def lcsc : Scope := cscopeOf lcomp
abbrev sN : Str := Str.ofString "n"
abbrev sScript : Str := Str.ofString "script"

theorem fmod6 (a : Int) : 0 ≤ a.fmod 6 ∧ a.fmod 6 < 6 := ⟨Int.fmod_nonneg_of_pos a (by decide), Int.fmod_lt_of_pos a (by decide)⟩

theorem six_at {α : Type} (l : List α) (h : l.length = 6) (k : Int) (h0 : 0 ≤ k) (h6 : k < 6) : ∃ x, l[k.toNat]? = some x :=
  ⟨l[k.toNat]'(by omega), List.getElem?_eq_getElem _⟩

section
variable {prog : Program} {w : World} {A : Around}

theorem elt_int {env : Env} {C : Addr} {a : Int} {t : Tok} {s₂ : Shared} {m₂ : Str → Option Value} {E' : Value → Shared → Prop} (hn : s₂.heap.Ns C m₂) (hm : m₂ sN = some (.int a t)) :
    wpAny (model prog w) A (eval lelt (compEnv lcsc C env)) (fun y s₃ => (∃ b u, y = .int b u) ∧ Keeps s₂ s₃) E' s₂ := by
  obtain ⟨hp, gns, dr, tk, os⟩ := s₂
  have X : ∀ tk' : Nat, InComp { heap := hp, gens := gns, drawn := dr, toks := tk, os := os } C m₂ { heap := hp, gens := gns, drawn := dr, toks := tk', os := os } := fun tk' => ⟨⟨_, _, rfl⟩, hn, fun _ _ e => e⟩
  dsimp only [lelt, lcomp, lbody, ldef, nth, valueOf, eltOf, bodyOf, PySem.Challenge.pw_kg0003_01]
  refine wpAny_BinOp ?_
  refine Subscript_ ?_
  refine List_ ?_
  iterate 6 (refine args_cons (wpAny_Constant_int ?_); dsimp only)
  refine args_nil ?_
  refine wpAny_newObj_type ?_ (by size_fits)
  dsimp only
  have X' : ∀ (o : Obj) (tk' : Nat), InComp { heap := hp, gens := gns, drawn := dr, toks := tk, os := os } C m₂ { heap := hp.push o, gens := gns, drawn := dr, toks := tk', os := os } :=
    fun o tk' => ⟨⟨_, _, rfl⟩, hn.push o, fun _ _ e => Heap.get?_push_of_some o e⟩
  refine wpAny_BinOp (ldK (X' _ _) rfl rfl hm ?_ (by decide))
  refine wpAny_Constant_int (mod_int' (by decide) ?_)
  dsimp only
  obtain ⟨x0, x6⟩ := fmod6 a
  have hl : ∀ (vs : List Value), (hp.push { cls := .type "list", dict := none, data := .seq vs.toArray }).IsList hp.objs.size vs.toArray := fun vs => ⟨_, Heap.get?_push_size _ rfl, rfl, _, rfl⟩
  have hx : ∀ (vs : List Value), (∀ v ∈ vs, ∃ b u, v = Value.int b u) → vs.length = 6 → ∃ b u, vs.toArray[(a.fmod 6).toNat]? = some (Value.int b u) := fun vs hv h6 => by
    obtain ⟨x, hx⟩ := six_at vs h6 _ x0 x6
    obtain ⟨b, u, rfl⟩ := hv x (List.mem_of_getElem? hx)
    exact ⟨b, u, by simpa using hx⟩
  obtain ⟨b, u, hbu⟩ := hx [.int 0 tk, .int 1 (tk + 1), .int 2 (tk + 1 + 1), .int 3 (tk + 1 + 1 + 1), .int 0 (tk + 1 + 1 + 1 + 1), .int 127 (tk + 1 + 1 + 1 + 1 + 1)] (by
    intro v hv
    simp only [List.mem_cons, List.not_mem_nil, or_false] at hv
    rcases hv with rfl | rfl | rfl | rfl | rfl | rfl <;> exact ⟨_, _, rfl⟩) rfl
  refine tail_any (Heap.IsList.typeIs (hl _)) slot_list_getitem.lookup (wpAny_getItem_list (hl _) x0 (by omega) hbu ?_) rfl
  refine wpAny_IfExp (wpAny_isTrue_Compare1 (wpAny_BinOp (ldK (X' _ _) rfl rfl hm ?_ (by decide))))
  refine wpAny_Constant_int (mod_int' (by decide) ?_)
  refine wpAny_Constant_int (eq_int (wpAny_truthy_bool ?_))
  dsimp only
  split
  · refine wpAny_Constant_int (add_int ?_)
    exact ⟨⟨_, _, rfl⟩, (X' _ _).done⟩
  · refine wpAny_Constant_int (add_int ?_)
    exact ⟨⟨_, _, rfl⟩, (X' _ _).done⟩
end

theorem paired_are : ∀ {l ys : List Value}, Paired (fun (_ y : Value) => ∃ b u, y = Value.int b u) l ys → ∃ zs, IntsAre ys zs ∧ zs.length = l.length
  | _, _, .nil => ⟨[], .nil, rfl⟩
  | _, _, .cons ⟨b, u, e⟩ r => by
    obtain ⟨zs, h, hl⟩ := paired_are r
    subst e
    exact ⟨b :: zs, .cons b u h, by simp [hl]⟩

section
variable {prog : Program} {w : World} {A : Around} {E : Value → Shared → Prop} {L sc : Addr} {base : Heap} {fa : Addr} {cd : Value} {m : Str → Option Value} {vs₀ : List Value}

theorem stmt1 {s : Shared} {Q : Flow → Shared → Prop} (hh : A.handled = none) (F : Fr base L s.heap m) (hms : m sScript = some (.ref sc)) (hsc : s.heap.IsList sc vs₀.toArray) (hlen : vs₀.length ≤ 63)
    (hints : ∀ v ∈ vs₀, ∃ a t, v = Value.int a t)
    (hQ : ∀ D h' tk vs zs, D ≠ L → base.get? D = none → Fr base L h' (fun z => if z = sSizes then some (.ref D) else m z) → h'.IsList D vs.toArray → IntsAre vs zs → zs.length ≤ 63 → Q .next { s with heap := h', toks := tk }) :
    wpAny (model prog w) A (exec (nth lbody 0) (lenv L fa cd)) Q E s := by
  have hL : ∀ D, s.heap.get? D = none → D ≠ L ∧ base.get? D = none := fun D hD => by
    refine ⟨fun q => ?_, ?_⟩
    · obtain ⟨o, _, _, ho, _⟩ := F.ns
      rw [← q, hD] at ho; cases ho
    · cases q : base.get? D with
      | none => rfl
      | some o => have := F.keep D o q; rw [hD] at this; cases this
  have hsl : sizeLine = 16777216 := sizeLine_eq
  refine wpAny_Assign_ListComp_map (fun _ => true) (fun _ y => ∃ b u, y = Value.int b u) rfl hh (by decide) (by decide) rfl (by decide) rfl rfl rfl (ld F hms ?_)
  refine ⟨sc, vs₀.toArray, m, rfl, hsc, by simp only [List.size_toArray]; omega, F.ns, ?_, ?_, ?_⟩
  · intro C v s₂ m₂ E' hv hn hm _
    exact wpAny_tests_nil ⟨rfl, s₂.heap, s₂.toks, rfl, fun _ _ e => e⟩
  · intro C v s₂ m₂ E' hv _ hn hm _
    obtain ⟨a, t, rfl⟩ := hints v (by simpa using hv)
    exact elt_int hn hm
  · intro D h' tk ys hD hl hP hns hk
    obtain ⟨zs, hz, hzl⟩ := paired_are hP
    refine hQ D h' tk ys.toList zs (hL D hD).1 (hL D hD).2 ⟨hns, fun b o e => hk b o (Nat.ne_of_lt (Nat.lt_of_lt_of_le (Heap.lt_size e) F.above)) (F.keep b o e), F.above⟩ (by simpa using hl) hz ?_
    rw [hzl]
    exact Nat.le_trans (List.length_filter_le _ _) (by simpa using hlen)
end

def lfor1 : Stmt := nth lbody 2
def lf1b : List Stmt := bodyOf lfor1

/-- the last of a list, as the slice from -1 gives it -/
def lastOf (ns : List Int) : List Int := pickNums ns (some (-1)) none none
def dueOf (zs : List Int) : List Int :=
  if zs[(pre zs).length]? = some 0 then pre zs ++ (List.replicate 100 (lastOf (pre zs))).flatten else pre zs

theorem carried_ints {vs : List Value} {ns : List Int} (h : IntsAre vs ns) (k : Nat) : IntsAre (List.replicate k vs).flatten (List.replicate k ns).flatten := by
  induction k with
  | zero => exact .nil
  | succ k ih => simp only [List.replicate_succ, List.flatten_cons]; exact h.append ih

/-- the whole heap as a ledger -/
def allNews (base : Heap) (L : Addr) (h : Heap) : List (Addr × Obj) :=
  (List.range h.objs.size).filterMap fun b => if b ≠ L ∧ base.get? b = none then (h.get? b).map fun o => (b, o) else none
theorem allNews_is (base : Heap) (L : Addr) (h : Heap) : News base L h (allNews base L h) := by
  intro p hp
  obtain ⟨b, _, hb⟩ := List.mem_filterMap.mp hp
  split at hb
  · rename_i hc
    obtain ⟨o, ho, rfl⟩ := Option.map_eq_some_iff.mp hb
    exact ⟨ho, hc.1, hc.2⟩
  · cases hb
theorem allNews_mem {base h : Heap} {L b : Addr} {o : Obj} (hL : b ≠ L) (hb : base.get? b = none) (ho : h.get? b = some o) : (b, o) ∈ allNews base L h := by
  refine List.mem_filterMap.mpr ⟨b, List.mem_range.mpr (Heap.lt_size ho), ?_⟩
  rw [if_pos ⟨hL, hb⟩, ho]; rfl
theorem kept_of {base h h' : Heap} {L : Addr} {m m' : Str → Option Value} {news : List (Addr × Obj)} (F : Fr base L h m) (F' : Fr base L h' m') (N' : News base L h' news) (hs : ∀ p ∈ allNews base L h, p ∈ news) :
    ∀ b o, b ≠ L → h.get? b = some o → h'.get? b = some o := fun b o hL ho => by
  cases q : base.get? b with
  | none => exact (N' _ (hs _ (allNews_mem hL q ho))).1
  | some o' =>
    have h1 := F.keep b o' q
    rw [ho] at h1; cases h1
    exact F'.keep b o q

section
variable {prog : Program} {w : World} {A : Around} {E : Value → Shared → Prop} {L sz du : Addr} {base : Heap} {fa : Addr} {cd : Value} {m : Str → Option Value} {vs : List Value} {zs : List Int}

/-- due = due + due[-1:] * 100 -/
theorem grow_stmt {s : Shared} {Q : Flow → Shared → Prop} {ws : List Value} {n : Nat} {ns : List Int} (F : Fr base L s.heap m) (hmd : m sDue = some (.ref du)) (hdu : s.heap.get? du = some (listOf ws.toArray n)) (hw : IntsAre ws ns) (hlen : ws.length ≤ 1000)
    (hduL : du ≠ L) (hdub : base.get? du = none)
    (hQ : ∀ d h' tk us, d ≠ L → base.get? d = none → d ≠ du → s.heap.get? d = none → Fr base L h' (fun y => if y = sDue then some (.ref d) else m y) → h'.IsList d us.toArray → IntsAre us (ns ++ (List.replicate 100 (lastOf ns)).flatten) →
      (∀ b o, b ≠ L → s.heap.get? b = some o → h'.get? b = some o) → Q .next { s with heap := h', toks := tk }) :
    wpAny (model prog w) A (exec (nth (bodyOf (nth lf1b 1)) 0) (lenv L fa cd)) Q E s := by
  obtain ⟨hp, gns, dr, tk, os⟩ := s
  have hsl : sizeLine = 16777216 := sizeLine_eq
  have N := allNews_is base L hp
  refine wpAny_Assign_Name ?_
  refine wpAny_BinOp (ld F hmd ?_)
  refine wpAny_BinOp ?_
  refine Subscript_ (ld F hmd ?_)
  refine wpAny_Slice ?_
  rw [evalPart_some]
  refine UnaryOp_ (wpAny_Constant_int (neg_int ?_))
  dsimp only
  rw [evalPart_none]
  refine wpAny_pure (wpAny_pure ?_)
  refine slice_list (s := { heap := hp, gens := gns, drawn := dr, toks := _, os := os }) F N (Heap.IsList.at (h := hp) ⟨_, hdu, rfl, _, rfl⟩ fun _ e => e) (.int _ _) .none (fun h₁ F₁ N₁ => ?_) rfl (fun _ => rfl) (by simp only [List.size_toArray]; omega)
  dsimp only at F₁ N₁ ⊢
  have hp₁ : IntsAre (slicePick ws.toArray (some (-1)) none none).toList (lastOf ns) := hw.pick _ _ _
  have hsp : (slicePick ws.toArray (some (-1)) none none).size ≤ 1000 := Nat.le_trans (slicePick_size_le ..) (by simpa using hlen)
  have hl₁ : h₁.IsList (hp.objs.size + 1) (slicePick ws.toArray (some (-1)) none none).toList.toArray := by
    rw [Array.toArray_toList]; exact News.isList N₁ (.head _)
  refine wpAny_Constant_int ?_
  refine mul_list_is (s := { heap := h₁, gens := gns, drawn := dr, toks := _, os := os }) F₁ N₁ hl₁ hp₁.carried (by decide) (by decide) (by
    rw [Array.length_toList]
    have : (100 : Int).toNat = 100 := rfl
    rw [this]; omega) fun h₂ F₂ N₂ _ hl₂ _ => ?_
  dsimp only at F₂ N₂ hl₂ ⊢
  have hlen₁ : (lastOf ns).length ≤ 1000 := by rw [← hp₁.length, Array.length_toList]; exact hsp
  have h100 : (100 : Int).toNat = 100 := rfl
  rw [h100] at hl₂
  have hdu₂ : h₂.IsList du ws.toArray := ⟨_, (N₂ _ (.tail _ (allNews_mem hduL hdub hdu))).1, rfl, _, rfl⟩
  refine add_arrays_ints (s := { heap := h₂, gens := gns, drawn := dr, toks := _, os := os }) F₂ N₂ hdu₂ hl₂ (ns := ns) (ms := (List.replicate 100 (lastOf ns)).flatten) hw (carried_ints hp₁ 100) (fun h₃ F₃ N₃ hi₃ => ?_) (by
    rw [lm_len_rep_flat, ← hw.length]; omega)
  dsimp only at F₃ N₃ hi₃ ⊢
  refine stS (s := { heap := h₃, gens := gns, drawn := dr, toks := _, os := os }) F₃ fun h₄ F₄ hs₄ => ?_
  have hd₃ := N₃ _ (.head _)
  have hkeep₂ := kept_of F F₂ N₂ fun p hp => .tail _ hp
  have hkeep₃ := kept_of F F₃ N₃ fun p hp => .tail _ (.tail _ hp)
  have hnew : ∀ b o, hp.get? b = some o → b ≠ h₂.objs.size := fun b o e q => by
    by_cases hb : b = L
    · have h1 := F₂.ns.lt
      rw [← hb, q] at h1
      exact absurd h1 (Nat.lt_irrefl _)
    · have h1 := Heap.lt_size (hkeep₂ b o hb e)
      rw [q] at h1
      exact absurd h1 (Nat.lt_irrefl _)
  refine hQ h₂.objs.size h₄ _ _ hd₃.2.1 hd₃.2.2 (fun q => hnew du _ hdu q.symm) ?_ F₄ ?_ hi₃ fun b o hb e => (hs₄.2 b hb).trans (hkeep₃ b o hb e)
  · cases q : hp.get? h₂.objs.size with
    | none => rfl
    | some o => exact absurd rfl (hnew _ o q)
  · exact Heap.IsList.at (h := h₃) (News.isList N₃ (.head _)) fun o e => (hs₄.2 _ hd₃.2.1).trans e
end

/-- how the first loop ends -/
def DEnd (zs : List Int) (vs : List Value) (L sz : Addr) (base : Heap) (m₀ : Str → Option Value) (s₀ s : Shared) : Prop :=
  ∃ h tk m d us, s = { s₀ with heap := h, toks := tk } ∧ Fr base L h m ∧ m sDue = some (.ref d) ∧ (∀ x, x ≠ sDue → x ≠ sSize → m x = m₀ x) ∧ d ≠ L ∧ d ≠ sz ∧ base.get? d = none ∧
    h.IsList d us.toArray ∧ IntsAre us (dueOf zs) ∧ h.IsList sz vs.toArray

section
variable {prog : Program} {w : World} {A : Around} {E : Value → Shared → Prop} {L sz du : Addr} {base : Heap} {fa : Addr} {cd : Value} {m : Str → Option Value} {vs : List Value} {zs : List Int} {n0 : Nat}

theorem stmt3 {s : Shared} {Q : Flow → Shared → Prop} (hh : A.handled = none) (F : Fr base L s.heap m) (hms : m sSizes = some (.ref sz)) (hmd : m sDue = some (.ref du)) (hsz : s.heap.IsList sz vs.toArray) (hi : IntsAre vs zs) (hlen : zs.length ≤ 63)
    (hdu : s.heap.get? du = some (listOf #[] n0)) (hszL : sz ≠ L) (hduL : du ≠ L) (hszdu : sz ≠ du) (hdub : base.get? du = none)
    (hQ : ∀ s', DEnd zs vs L sz base m s s' → Q .next s') :
    wpAny (model prog w) A (exec lfor1 (lenv L fa cd)) Q E s := by
  obtain ⟨hp, gns, dr, tk, os⟩ := s
  have hprele : (pre zs).length ≤ zs.length := by
    have := congrArg List.length (pre_split zs)
    rw [List.length_append] at this; omega
  have hLlt : L < hp.objs.size := F.ns.lt
  have hdult : du < hp.objs.size := Heap.lt_size hdu
  have hszlt : sz < hp.objs.size := let ⟨_, ho, _⟩ := hsz; Heap.lt_size ho
  refine wpAny_For (ld F hms (wpAny_pyIter_list hsz ?_))
  dsimp only
  refine codeAny_forLoop (fun k s => ∃ i h tk m' ws n, k = zs.length + 1 - i ∧ i ≤ (pre zs).length ∧ s = { heap := h, gens := gns, drawn := dr, toks := tk, os := os } ∧ Fr base L h m' ∧ (∀ x, x ≠ sSize → m' x = m x) ∧
      h.get? du = some (listOf ws.toArray n) ∧ IntsAre ws ((pre zs).take i) ∧ h.IsList sz vs.toArray ∧ h.IsListIter hp.objs.size sz i)
    (fun k s hI => ?_) (zs.length + 1) ⟨0, _, tk, m, [], n0, rfl, Nat.zero_le _, rfl, F.push _, fun _ _ => rfl, Heap.get?_push_of_some _ hdu, .nil, hsz.push _, ⟨_, Heap.get?_push_size _ rfl, rfl, rfl⟩⟩
  obtain ⟨i, h, tk', m', ws, n, rfl, hile, rfl, F', hfm, hdu', hws, hsz', hit⟩ := hI
  have itL : hp.objs.size ≠ L := Nat.ne_of_gt hLlt
  have itdu : hp.objs.size ≠ du := Nat.ne_of_gt hdult
  have itsz : hp.objs.size ≠ sz := Nat.ne_of_gt hszlt
  have itb : ∀ b o, base.get? b = some o → b ≠ hp.objs.size := fun b o e => Nat.ne_of_lt (Nat.lt_trans (Nat.lt_of_lt_of_le (Heap.lt_size e) F.above) hLlt)
  have hmd' : m' sDue = some (.ref du) := (hfm _ (by decide)).trans hmd
  have hwl : ws.length ≤ 1000 := by rw [hws.length, List.length_take]; omega
  cases hz : zs[i]? with
  | none =>
    have hip : i = (pre zs).length := by
      have h1 := List.getElem?_eq_none_iff.mp hz
      omega
    have hx : vs.toArray[i]? = none := by
      have h1 := List.getElem?_eq_none_iff.mp hz
      rw [← hi.length] at h1
      simpa using h1
    refine wpAny_pyNext_list_end hh hit hsz' hx fun h₁ hs₁ => ?_
    refine wpAny_execs_nil (hQ _ ⟨h₁, tk', m', du, ws, rfl, fr_at F' (fun o e => hs₁ _ _ itL.symm e) (fun b o eb e => hs₁ b o (itb b o eb) e), hmd', fun x _ hx => hfm x hx, hduL, Ne.symm hszdu, hdub, ?_, ?_, ?_⟩)
    · exact ⟨_, hs₁ du _ itdu.symm hdu', rfl, _, rfl⟩
    · unfold dueOf
      rw [← hip, if_neg (by rw [hz]; nofun)]
      rw [hip, List.take_length] at hws
      exact hws
    · exact hsz'.at fun o e => hs₁ sz o itsz.symm e
  | some z =>
    obtain ⟨t, hx⟩ := hi.get i z hz
    refine wpAny_pyNext_list_item hit hsz' (x := .int z t) (by simpa using hx) fun h₁ hit₁ hs₁ => ?_
    have F₁ : Fr base L h₁ m' := fr_at F' (fun o e => (hs₁.2 _ itL.symm).trans e) fun b o eb e => (hs₁.2 b (itb b o eb)).trans e
    dsimp only
    refine wpAny_assign_Name (stS (s := { heap := h₁, gens := gns, drawn := dr, toks := tk', os := os }) F₁ fun h₂ F₂ hs₂ => ?_)
    dsimp only at hs₂ ⊢
    have hm₂ : ∀ x v, x ≠ sSize → m' x = some v → (if x = sSize then some (Value.int z t) else m' x) = some v := fun x v hx hv => by rw [if_neg hx]; exact hv
    have hdu₂ : h₂.get? du = some (listOf ws.toArray n) := (hs₂.2 du hduL).trans ((hs₁.2 du itdu.symm).trans hdu')
    have hsz₂ : h₂.IsList sz vs.toArray := hsz'.at fun o e => (hs₂.2 sz hszL).trans ((hs₁.2 sz itsz.symm).trans e)
    have hit₂ : h₂.IsListIter hp.objs.size sz (i + 1) := hit₁.at fun o e => (hs₂.2 _ itL).trans e
    have hfm₂ : ∀ x, x ≠ sSize → (if x = sSize then some (Value.int z t) else m' x) = m x := fun x hx => by rw [if_neg hx]; exact hfm x hx
    rcases Nat.lt_or_ge i (pre zs).length with hlt | hge
    · obtain ⟨z', hz', hg, hp'⟩ := pre_in hlt
      rw [hz] at hz'; cases hz'
      have hz1 : (z == 127) = false := by simp only [good, Bool.and_eq_true, Bool.not_eq_true'] at hg; exact hg.1
      have hz0 : (z == 0) = false := by simp only [good, Bool.and_eq_true, Bool.not_eq_true'] at hg; exact hg.2
      refine wpAny_execs_cons (wpAny_If (wpAny_isTrue_Compare1 (ld F₂ (if_pos rfl) (wpAny_Constant_int (eq_int (wpAny_truthy_bool ?_))))))
      rw [hz1, if_neg (by decide)]
      refine wpAny_execs_nil ?_
      refine wpAny_execs_cons (wpAny_If (wpAny_isTrue_Compare1 (ld (s := { heap := h₂, gens := gns, drawn := dr, toks := _, os := os }) F₂ (if_pos rfl) (wpAny_Constant_int (eq_int (wpAny_truthy_bool ?_))))))
      rw [hz0, if_neg (by decide)]
      refine wpAny_execs_nil ?_
      refine wpAny_execs_cons (append_stmt (s := { heap := h₂, gens := gns, drawn := dr, toks := _, os := os }) F₂ (x := sDue) (v := .int z t) (hm₂ _ _ (by decide) hmd') (if_pos rfl) hdu₂ hduL hdub hwl rfl (by decide) fun h₃ F₃ hs₃ hdu₃ => ?_)
      refine wpAny_execs_nil ⟨zs.length + 1 - (i + 1), by omega, i + 1, h₃, _, _, _, _, rfl, hlt, rfl, F₃, hfm₂, hdu₃, ?_, hsz₂.at fun o e => (hs₃.2 sz hszdu).trans e, hit₂.at fun o e => (hs₃.2 _ itdu).trans e⟩
      rw [List.take_add_one]
      refine hws.append ?_
      rw [List.getElem?_eq_getElem hlt]
      have : (pre zs)[i] = z := by rw [← hp']; simp [hlt]
      rw [this]
      exact .cons _ _ .nil
    · have hip : i = (pre zs).length := by omega
      have hws' : IntsAre ws (pre zs) := by rw [hip, List.take_length] at hws; exact hws
      rcases pre_out (hip ▸ hz) with rfl | rfl
      · refine wpAny_execs_cons (wpAny_If (wpAny_isTrue_Compare1 (ld F₂ (if_pos rfl) (wpAny_Constant_int (eq_int (wpAny_truthy_bool ?_))))))
        rw [if_pos (by decide)]
        refine wpAny_execs_cons (wpAny_Break ?_)
        refine hQ _ ⟨h₂, _, _, du, ws, rfl, F₂, hm₂ _ _ (by decide) hmd', fun x _ hx => hfm₂ x hx, hduL, Ne.symm hszdu, hdub, ⟨_, hdu₂, rfl, _, rfl⟩, ?_, hsz₂⟩
        unfold dueOf
        rw [← hip, if_neg (by rw [hz]; nofun)]
        exact hws'
      · refine wpAny_execs_cons (wpAny_If (wpAny_isTrue_Compare1 (ld F₂ (if_pos rfl) (wpAny_Constant_int (eq_int (wpAny_truthy_bool ?_))))))
        rw [if_neg (by decide)]
        refine wpAny_execs_nil ?_
        refine wpAny_execs_cons (wpAny_If (wpAny_isTrue_Compare1 (ld (s := { heap := h₂, gens := gns, drawn := dr, toks := _, os := os }) F₂ (if_pos rfl) (wpAny_Constant_int (eq_int (wpAny_truthy_bool ?_))))))
        rw [if_pos (by decide)]
        refine wpAny_execs_cons (grow_stmt (s := { heap := h₂, gens := gns, drawn := dr, toks := _, os := os }) F₂ (hm₂ _ _ (by decide) hmd') hdu₂ hws' hwl hduL hdub fun d h₃ tk₃ us hdL hdb hddu hnew F₃ hd₃ hus hk₃ => ?_)
        refine wpAny_execs_cons (wpAny_Break ?_)
        refine hQ _ ⟨h₃, _, _, d, us, rfl, F₃, if_pos rfl, fun x h1 h2 => by rw [if_neg h1]; exact hfm₂ x h2, hdL, fun q => ?_, hdb, hd₃, ?_, hsz₂.at fun o e => hk₃ sz o hszL e⟩
        · obtain ⟨o, ho, _⟩ := hsz₂
          have hnew' : h₂.get? d = none := hnew
          rw [q, ho] at hnew'; cases hnew'
        · unfold dueOf
          rw [← hip, if_pos hz]
          exact hus
end

theorem pre_le (zs : List Int) : (pre zs).length ≤ zs.length := by
  have := congrArg List.length (pre_split zs)
  rw [List.length_append] at this; omega

theorem told_pre (zs : List Int) : told zs (pre zs).length = pre zs := by
  refine List.ext_getElem? fun i => ?_
  unfold told
  rcases Nat.lt_or_ge i (pre zs).length with h | h
  · rw [List.getElem?_map, List.getElem?_range h, List.getElem?_eq_getElem h]
    simp [V, h]
  · rw [List.getElem?_eq_none (by simpa using h), List.getElem?_eq_none h]

theorem lastOf_eq {ns : List Int} (h : 0 < ns.length) : lastOf ns = [ns.getD (ns.length - 1) 0] := by
  unfold lastOf pickNums
  have hb : sliceBounds (some (-1)) none none ns.length = ((ns.length : Int) - 1, (ns.length : Int), 1) := by
    simp only [sliceBounds, Option.getD_none]
    have h1 : (1 : Int) > 0 := by decide
    simp only [h1, if_true]
    have h2 : (-1 : Int) < 0 := by decide
    simp only [h2, if_true]
    congr 1
    omega
  rw [hb]
  unfold sliceRange
  have h1 : (1 : Int) > 0 := by decide
  have h2 : (ns.length : Int) - 1 < (ns.length : Int) := by omega
  simp only [h1, if_true, h2]
  have h3 : (((ns.length : Int) - ((ns.length : Int) - 1) + 1 - 1) / 1).toNat = 1 := by
    rw [Int.ediv_one]; omega
  rw [h3]
  have h4 : ((ns.length : Int) - 1 + 1 * ((0 : Nat) : Int)).toNat = ns.length - 1 := by omega
  simp only [List.range_one, List.map_cons, List.map_nil, h4, List.filterMap_cons, List.filterMap_nil]
  have h5 : ns.length - 1 < ns.length := by omega
  rw [List.getElem?_eq_getElem h5]
  simp [h5]

theorem law_eq {zs : List Int} {j : Nat} (hlen : zs.length ≤ 63) (hj : (j = (pre zs).length ∧ zs[j]? ≠ some 0) ∨ (j = 100 ∧ Endless zs)) : told zs j = (dueOf zs).take 100 := by
  have hpl := pre_le zs
  rcases hj with ⟨rfl, hz⟩ | ⟨rfl, h0, hz⟩
  · unfold dueOf
    rw [if_neg hz, told_pre, List.take_of_length_le (by omega)]
  · unfold dueOf
    rw [if_pos hz, lastOf_eq h0, lm_rep_flat_one]
    refine List.ext_getElem? fun i => ?_
    unfold told
    rcases Nat.lt_or_ge i 100 with h | h
    · rw [List.getElem?_map, List.getElem?_range h, List.getElem?_take_of_lt h]
      rcases Nat.lt_or_ge i (pre zs).length with h' | h'
      · rw [List.getElem?_append_left h', List.getElem?_eq_getElem h']
        simp [V, h']
      · rw [List.getElem?_append_right h', List.getElem?_replicate, if_pos (by omega)]
        have : ¬ i < (pre zs).length := by omega
        simp [V, this]
    · rw [List.getElem?_eq_none (by simpa using h), List.getElem?_eq_none]
      rw [List.length_take]; omega

theorem first_ok {zs : List Int} {j : Nat} (hj : (j = (pre zs).length ∧ zs[j]? ≠ some 0) ∨ (j = 100 ∧ Endless zs)) : zs[0]? ≠ some 0 := by
  intro h
  have hp : (pre zs).length = 0 := by
    rcases Nat.eq_zero_or_pos (pre zs).length with h' | h'
    · exact h'
    · obtain ⟨z, hz, hg, _⟩ := pre_in h'
      rw [h] at hz; cases hz
      simp [good] at hg
  rcases hj with ⟨rfl, hz⟩ | ⟨rfl, h0, hz⟩
  · rw [hp] at hz; exact hz h
  · omega

section
variable {prog : Program} {w : World} {A : Around} {E : Value → Shared → Prop} {L sz td du : Addr} {base : Heap} {fa : Addr} {cd : Value} {m : Str → Option Value} {vs : List Value} {zs : List Int}

/-- x = [] -/
theorem empty_stmt {s : Shared} {Q : Flow → Shared → Prop} {x : Str} {p1 p2 p3 : Pos} (F : Fr base L s.heap m) (hlx : (lenv L fa cd).kindOf x = some .local)
    (hsw : swapsWith (.List [] p2) (some (.Name x p1)) p3.line (lenv L fa cd) = pure false)
    (hQ : ∀ d h' tk, d ≠ L → base.get? d = none → s.heap.get? d = none → Fr base L h' (fun y => if y = x then some (.ref d) else m y) → h'.get? d = some (listOf #[] 0) →
      (∀ b o, b ≠ L → s.heap.get? b = some o → h'.get? b = some o) → Q .next { s with heap := h', toks := tk }) :
    wpAny (model prog w) A (exec (.Assign [.Name x p1] (.List [] p2) p3) (lenv L fa cd)) Q E s := by
  refine wpAny_Assign_Name (List_ (args_nil (wpAny_newObj_type ?_ (by size_fits)))) hsw
  have hfree : s.heap.get? s.heap.objs.size = none := Heap.get?_none_of_le (Nat.le_refl _)
  have hdL : s.heap.objs.size ≠ L := Nat.ne_of_gt F.ns.lt
  refine stS (F.push _) (fun h' F' hs' => ?_) rfl hlx
  refine hQ s.heap.objs.size h' _ hdL ?_ hfree F' ((hs'.2 _ hdL).trans (Heap.get?_push_size _ rfl)) fun b o hb e => (hs'.2 b hb).trans (Heap.get?_push_of_some _ e)
  cases q : base.get? s.heap.objs.size with
  | none => rfl
  | some o => have := F.keep _ o q; rw [hfree] at this; cases this

/-- the last two statements -/
theorem tail_stmts {s : Shared} {Q : Flow → Shared → Prop} {ws us : List Value} {j : Nat} (hu : A.units + 64 < cLine) (F : Fr base L s.heap m) (hms : m sSizes = some (.ref sz)) (hmt : m sTold = some (.ref td)) (hmd : m sDue = some (.ref du))
    (hsz : s.heap.IsList sz vs.toArray) (hi : IntsAre vs zs) (htd : s.heap.IsList td ws.toArray) (hw : IntsAre ws (told zs j)) (hdu : s.heap.IsList du us.toArray) (hus : IntsAre us (dueOf zs)) (hlen : zs.length ≤ 63)
    (htdL : td ≠ L)
    (hj : (j = (pre zs).length ∧ zs[j]? ≠ some 0) ∨ (j = 100 ∧ Endless zs))
    (hQ : ∀ h' tk, (∀ b o, base.get? b = some o → h'.get? b = some o) → Q (.ret (.bool true)) { s with heap := h', toks := tk }) :
    wpAny (model prog w) A (execs [nth lbody 5, nth lbody 6] (lenv L fa cd)) Q E s := by
  obtain ⟨hp, gns, dr, tk, os⟩ := s
  have hsl : sizeLine = 16777216 := sizeLine_eq
  have last : ∀ h' tk', Fr base L h' m → (∀ b o, b ≠ L → hp.get? b = some o → h'.get? b = some o) → h'.IsList du us.toArray →
      wpAny (model prog w) A (execs [nth lbody 6] (lenv L fa cd)) Q E { heap := h', gens := gns, drawn := dr, toks := tk', os := os } := by
    intro h' tk' F' hk' hdu'
    have htd' : h'.IsList td ws.toArray := htd.at fun o e => hk' td o htdL e
    have N := allNews_is base L h'
    refine wpAny_execs_cons (wpAny_Return_some (wpAny_Compare1 (ld F' hmt (Subscript_ (ld F' hmd (wpAny_Slice ?_))))))
    rw [evalPart_none, evalPart_some]
    refine wpAny_pure (wpAny_Constant_int (wpAny_pure ?_))
    dsimp only
    have hul : us.length ≤ 10000 := by
      rw [hus.length]
      have := pre_le zs
      unfold dueOf
      split
      · rename_i hz
        rw [List.length_append, lm_len_rep_flat]
        have h1 : (lastOf (pre zs)).length ≤ (pre zs).length := length_pickNums_le (vs := (pre zs).map fun z => Value.int z 0) (by
          have : ∀ l : List Int, IntsAre (l.map fun z => Value.int z 0) l := fun l => by
            induction l with
            | nil => exact .nil
            | cons a r ih => exact .cons a 0 ih
          exact this _) _ _ _
        omega
      · omega
    refine slice_list (s := { heap := h', gens := gns, drawn := dr, toks := _, os := os }) F' N hdu' .none (.int _ _) (fun h₁ F₁ N₁ => ?_) rfl (fun _ => rfl) (by simp only [List.size_toArray]; omega)
    dsimp only at F₁ N₁ ⊢
    have hp₁ : IntsAre (slicePick us.toArray none (some 100) none).toList ((dueOf zs).take 100) := slice_ints_uptoW hus (by decide)
    have hl₁ : h₁.IsList (h'.objs.size + 1) (slicePick us.toArray none (some 100) none).toList.toArray := by
      rw [Array.toArray_toList]; exact News.isList N₁ (.head _)
    have htd₁ : h₁.IsList td ws.toArray := htd'.at fun o e => kept_of F' F₁ N₁ (fun p hp => .tail _ hp) td o htdL e
    refine eq_intsK (s := { heap := h₁, gens := gns, drawn := dr, toks := _, os := os }) htd₁ hw hl₁ hp₁ hu ?_
    rw [decide_eq_true (law_eq hlen hj)]
    exact hQ h₁ _ F₁.keep
  refine wpAny_execs_cons (wpAny_If (isTrue_and (wpAny_isTrue_Compare1 (ld F hms (List_ (args_nil (wpAny_newObj_type ?_ (by size_fits))))))))
  dsimp only
  have keepP : ∀ o' : Obj, ∀ b o, b ≠ L → hp.get? b = some o → (hp.push o').get? b = some o := fun o' b o _ e => Heap.get?_push_of_some _ e
  refine ne_intsK (s := { heap := hp.push _, gens := gns, drawn := dr, toks := tk, os := os }) (hsz.push _) hi (us := []) (ms := []) ⟨_, Heap.get?_push_size _ rfl, rfl, _, rfl⟩ .nil hu (wpAny_truthy_bool ?_)
  by_cases hz : zs = []
  · rw [decide_eq_true hz]
    rw [if_neg (by decide), if_neg (by decide)]
    exact wpAny_execs_nil (last _ _ (F.push _) (keepP _) (hdu.push _))
  · rw [decide_eq_false hz]
    rw [if_pos (by decide)]
    obtain ⟨z, r, rfl⟩ := List.exists_cons_of_ne_nil hz
    obtain ⟨t, hx⟩ := hi.get 0 z rfl
    refine isTrue_and (wpAny_isTrue_Compare1 (Subscript_ (ld (s := { heap := hp.push _, gens := gns, drawn := dr, toks := tk, os := os }) (F.push _) hms (wpAny_Constant_int ?_))))
    refine item_listL (s := { heap := hp.push _, gens := gns, drawn := dr, toks := _, os := os }) (hsz.push _) (by decide) (by decide) (x := .int z t) hx ?_
    refine wpAny_Constant_int (eq_int (wpAny_truthy_bool ?_))
    have hz0 : (z == 0) = false := by
      have := first_ok hj
      rw [beq_eq_false_iff_ne]
      intro q
      exact this (by rw [q]; rfl)
    rw [hz0, if_neg (by decide), if_neg (by decide)]
    exact wpAny_execs_nil (last _ _ (F.push _) (keepP _) (hdu.push _))
end

section
variable {prog : Program} {w : World} {A : Around} {E : Value → Shared → Prop} {L sc : Addr} {base : Heap} {fa fg : Addr} {cd cg pm doc : Value} {og : Obj} {mg mb m : Str → Option Value} {vs₀ : List Value}

theorem law_body {s : Shared} {Q : Flow → Shared → Prop} (hh : A.handled = none) (hfr : A.frames = some [lenv L fa cd]) (hroom : A.depth < recursionLimit) (hu : A.units + 64 < cLine) (LN : LNames base mg mb)
    (hf : mg (Str.ofString "_grouping_intervals") = some (.ref fg)) (hfo : base.get? fg = some og)
    (hfd : og.data = .func (docDef (Str.ofString "_grouping_intervals") gparams gbody gscope pm cg doc)) (hcd : base.CodeRec cg (Str.ofString "_grouping_intervals"))
    (F : Fr base L s.heap m) (hms : m sScript = some (.ref sc)) (hsc : base.IsList sc vs₀.toArray) (hlen : vs₀.length ≤ 63) (hints : ∀ v ∈ vs₀, ∃ a t, v = Value.int a t) (hgens : s.gens = #[])
    (hQ : ∀ s', (∀ b o, base.get? b = some o → s'.heap.get? b = some o) → s'.os = s.os → AllBare s'.gens → Q (.ret (.bool true)) s') :
    wpAny (model prog w) A (execs lbody (lenv L fa cd)) Q E s := by
  obtain ⟨hp, gns, dr, tk, os⟩ := s
  obtain rfl : gns = #[] := hgens
  refine wpAny_execs_cons ?_
  refine stmt1 hh F hms (hsc.at fun o e => F.keep _ o e) hlen hints fun sz h₁ tk₁ vs zs hszL hszb F₁ hsz₁ hi hzl => ?_
  dsimp only at F₁ hsz₁ ⊢
  refine wpAny_execs_cons ?_
  refine empty_stmt (s := { heap := h₁, gens := #[], drawn := dr, toks := tk₁, os := os }) (x := sDue) F₁ rfl rfl fun du h₂ tk₂ hduL hdub hdun F₂ hdu₂ hk₂ => ?_
  dsimp only at hdun F₂ hdu₂ hk₂ ⊢
  have hsz₂ : h₂.IsList sz vs.toArray := hsz₁.at fun o e => hk₂ sz o hszL e
  have hszdu : sz ≠ du := fun q => by
    obtain ⟨o, ho, _⟩ := hsz₁
    rw [q, hdun] at ho; cases ho
  refine wpAny_execs_cons ?_
  refine stmt3 (s := { heap := h₂, gens := #[], drawn := dr, toks := tk₂, os := os }) (sz := sz) (du := du) (vs := vs) (zs := zs) hh F₂ ?_ (if_pos rfl) hsz₂ hi hzl hdu₂ hszL hduL hszdu hdub ?_
  · exact (if_neg (by decide)).trans (if_pos rfl)
  rintro s' ⟨h₃, tk₃, m₃, d, us, rfl, F₃, hmd₃, hfm₃, hdL, hdsz, hdb, hd₃, hus, hsz₃⟩
  dsimp only
  have hms₃ : m₃ sSizes = some (.ref sz) := (hfm₃ _ (by decide) (by decide)).trans ((if_neg (by decide)).trans (if_pos rfl))
  refine wpAny_execs_cons ?_
  refine empty_stmt (s := { heap := h₃, gens := #[], drawn := dr, toks := tk₃, os := os }) (x := sTold) F₃ rfl rfl fun td h₄ tk₄ htdL htdb htdn F₄ htd₄ hk₄ => ?_
  dsimp only at htdn F₄ htd₄ hk₄ ⊢
  have hsz₄ : h₄.IsList sz vs.toArray := hsz₃.at fun o e => hk₄ sz o hszL e
  have hd₄ : h₄.IsList d us.toArray := hd₃.at fun o e => hk₄ d o hdL e
  have hsztd : sz ≠ td := fun q => by
    obtain ⟨o, ho, _⟩ := hsz₃
    rw [q, htdn] at ho; cases ho
  have hdtd : d ≠ td := fun q => by
    obtain ⟨o, ho, _⟩ := hd₃
    rw [q, htdn] at ho; cases ho
  have hpre : (pre zs).length < 100 := by have := pre_le zs; omega
  refine wpAny_execs_cons ?_
  refine try_stmt (s := { heap := h₄, gens := #[], drawn := dr, toks := tk₄, os := os }) hh hfr hroom LN hf hfo hfd hcd F₄ ((if_neg (by decide)).trans hms₃) (if_pos rfl) rfl hsz₄ hi htd₄ hszL htdL hsztd htdb hpre ?_ ?_
  · rintro s' ⟨h₅, tk₅, gs, m₅, ws, n, j, rfl, hb, F₅, hfm₅, htd₅, hw, hk₅, hj⟩
    refine tail_stmts (s := { heap := h₅, gens := #[gs], drawn := dr, toks := tk₅, os := os }) (du := d) hu F₅ ?_ ?_ ?_ (hsz₄.at fun o e => hk₅ sz o hszL hsztd e) hi ⟨_, htd₅, rfl, _, rfl⟩ hw (hd₄.at fun o e => hk₅ d o hdL hdtd e) hus hzl htdL hj ?_
    · exact (hfm₅ _ (by decide)).trans ((if_neg (by decide)).trans hms₃)
    · exact (hfm₅ _ (by decide)).trans (if_pos rfl)
    · exact (hfm₅ _ (by decide)).trans ((if_neg (by decide)).trans hmd₃)
    · intro h' tk' hk'
      refine hQ _ hk' rfl fun y hy => ?_
      have : y = gs := by simpa using hy
      rw [this]; exact hb
  · intro s' hk' hos hg
    refine hQ s' hk' hos fun y hy => ?_
    rw [hg] at hy
    have : y = .finished := by simpa using hy
    rw [this]; rfl
end

def posOf : Stmt → Pos
  | .FunctionDef _ _ _ _ _ _ _ _ _ p => p
  | _ => default

theorem lnames_of {N : Nat} {mg mb : Str → Option Value} {defs : List DefItem} {consts : List (Str × PyData)} {objs : List (Str × (Obj → Prop))} {names : List Str} {h : Heap} (G : Glob N mg mb defs consts objs names h)
    (hc : consts = [(Str.ofString "CHAR_MAX", PyData.int 127)]) (h1 : Str.ofString "ValueError" ∉ names) (h2 : Str.ofString "len" ∉ names) : LNames h mg mb where
  gn := { g := G.g, b := G.b, cm := by
            obtain ⟨v, hv, hd⟩ := G.bound (Str.ofString "CHAR_MAX", PyData.int 127) (by rw [hc]; exact .head _)
            obtain ⟨t, rfl⟩ := hd.int
            exact ⟨t, hv⟩
          ve := G.free _ h1 (by decide +kernel)
          veb := (G.builtins _ (by decide)).trans (by kernel_rfl) }
  len := G.free _ h2 (by decide +kernel)
  lenb := (G.builtins _ (by decide)).trans (by kernel_rfl)
  nolimit := G.nolimit

theorem def_of {N : Nat} {mg mb : Str → Option Value} {defs : List DefItem} {consts : List (Str × PyData)} {objs : List (Str × (Obj → Prop))} {names : List Str} {h : Heap} (G : Glob N mg mb defs consts objs names h)
    (hd : defs = [⟨Str.ofString "_grouping_intervals", gparams, gbody, gscope, posOf gdef⟩, ⟨Str.ofString "law", paramsOf ldef, lbody, lscope, posOf ldef⟩]) :
    ∃ f o c pm doc, mg (Str.ofString "_grouping_intervals") = some (.ref f) ∧ h.get? f = some o ∧ o.data = .func (docDef (Str.ofString "_grouping_intervals") gparams gbody gscope pm (.ref c) doc) ∧ h.CodeRec (.ref c) (Str.ofString "_grouping_intervals") := by
  obtain ⟨f, c', o, pm, doc, _, _, h3, h4, h5, h6⟩ := (G.made ⟨Str.ofString "_grouping_intervals", gparams, gbody, gscope, posOf gdef⟩ (by rw [hd]; exact .head _)).plain rfl
  exact ⟨f, o, c', pm, doc, h3, h4, h5, h6⟩

end Mine

set_option maxRecDepth 100000 in
set_option maxHeartbeats 8000000 in
theorem PySem.Challenge.cw_kg0003_01_holds : PySem.Challenge.rw_kg0003_01.Holds := by
  w_on
  o_law
  k_head
  case hw => w_witness2
  k_fill
  intro w s₀ s₁ mg mb G Y fa o pm cd doc dV kV ho hd hcd hD hmg hg args vals as hpre hlay hrd hwl hlo
  have V := (Ground.X G).2
  have GL := glob_more (Ground.glob G (by first | k_qdec | decide +kernel) (by first | k_qdec | decide +kernel)) V
  refine Ground.open G ?_
  intro T B D TE TW
  try (refine guard_noD D (by decide +kernel) ?_; clear D)
  have TA := at_of_top T
  clear hmg
  wrow_args hpre hlay hrd hwl hlo
  refine enter_call ?_
  w_top on
  w_call any ho hd hcd hD T F
  have LN := Mine.lnames_of GL (by kernel_rfl) (by decide +kernel) (by decide +kernel)
  obtain ⟨fg, og, cg, pmg, docg, hf, hfo, hfd, hcdg⟩ := Mine.def_of GL (by kernel_rfl)
  rename Heap.IsList _ _ _ => hL
  rename IntsAre _ _ => hI
  refine Mine.law_body (base := s₁.heap) (L := s₁.heap.objs.size) rfl rfl (show 1 + claimMargin + 1 < recursionLimit by decide) (show 4 + 3 + 64 < cLine by decide) LN hf hfo hfd hcdg F rfl hL ?_ (fun v hv => hI.all v hv) hg ?_
  · have h63 := hI.length
    omega
  · intro s' hk hos hb
    exact ⟨.inl ⟨.bool true, .bool true, [], rfl, fun _ => rfl, .bool true, postW_of (r := PySem.Challenge.rw_kg0003_01.row.toRowW) rfl (w_eq_bool (w_res rfl) w_lit) (by rfl), unshared_nil⟩, .of_keep hk, hos, hb⟩
