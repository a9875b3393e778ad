import PyProof.Rows.All
import Wide.All
import OpenK.AllK
import Wide.FinOn
import Lean
import PySem.Challenge.RW_kl0468_01
open PySem PySem.W PyProof.Rows
set_option Elab.async false

namespace Mine
section
set_option maxRecDepth 100000
set_option maxHeartbeats 1000000
open PySem.Builtin

abbrev boundB (id : String) (self : Value) : Obj := { cls := .type "builtin_function_or_method", data := .fields #[.builtin id, self] }

theorem slot_md_get : Slot "method_descriptor" "__get__" "method_descriptor.__get__" :=
  .of (owner := "method_descriptor") (n := "__get__") (by rw [typeLookup_type, builtinLookup_eq_fast]; kernel_rfl) (by decide +kernel) (by decide +kernel) (by decide +kernel)
    (by first | exact .inl (by decide +kernel) | exact .inr (by decide +kernel)) (by rw [isSubtype_type]; kernel_rfl)
theorem entry_md_get : entryFor table "method_descriptor.__get__" = some Builtin.«method_descriptor.__get__» := entryFor_of_tree (by kernel_rfl)
theorem args_md_get (a b c : Value) : argsOk "method_descriptor.__get__" ⟨[a, b, c], []⟩ := by unfold argsOk; kernel_rfl
theorem look_md_set : typeLookup (.type "method_descriptor") "__set__" = pure none := by rw [typeLookup_type, builtinLookup_eq_fast]; kernel_rfl
theorem look_md_delete : typeLookup (.type "method_descriptor") "__delete__" = pure none := by rw [typeLookup_type, builtinLookup_eq_fast]; kernel_rfl
theorem look_set_getattr : typeLookup (.type "set") "__getattr__" = pure none := by rw [typeLookup_type, builtinLookup_eq_fast]; kernel_rfl
theorem sub_set_set : isSubtype (.type "set") (.type "set") = pure true := by rw [isSubtype_type]; kernel_rfl

section
variable {prog : Program} {w : World} {A : Around} {E : Value → Shared → Prop} {h : Heap} {g : Array GenState} {d : Drawn} {t : Nat} {os : OsState} {a : Addr} {o : Obj}

theorem owner_set_add : ".".intercalate ("set.add".cutAt '.').dropLast = "set" := by decide +kernel
theorem bind_set_add {R : Result → Shared → Prop} (hx : h.get? a = some o) (hc : o.cls = .type "set")
    (hq : R (.ok (.ret (.ref h.objs.size))) ⟨h.push (boundB "set.add" (.ref a)), g, d, t, os⟩) :
    codeAny (model prog w) A (.call (.builtin "method_descriptor.__get__") ⟨[.builtin "set.add", .ref a, .type "set"], []⟩) R ⟨h, g, d, t, os⟩ := by
  have hT : (⟨h, g, d, t, os⟩ : Shared).TypeIs (.ref a) "set" := ⟨_, hx, hc⟩
  have hT5 : (⟨h, g, d, t, os⟩ : Shared).TypeIs (.builtin "set.add") "method_descriptor" := F.type_set_add
  have f8 : isSubtype (.type "set") (.type (".".intercalate ("set.add".cutAt '.').dropLast)) = pure true := by rw [owner_set_add]; exact sub_set_set
  refine codeAny_call_builtin slot_md_get.plain entry_md_get (slot_md_get.check _ _ _ _ _ _ _ _ hT5 (args_md_get _ _ _) ?_)
  repeat (any_goals (first | assumption | wp_step))

theorem got_set_add {u : Tok} {es : Array (Int × Value)} {ep : Nat} {tb : SetTable} {Q : Fin → Shared → Prop} (hx : h.get? a = some { cls := .type "set", dict := none, data := .set es ep tb, slots := #[] })
    (hq : Q (.done (.ret (.ref h.objs.size))) ⟨h.push (boundB "set.add" (.ref a)), g, d, t, os⟩) :
    wpAny (model prog w) A (Builtin.«object.__getattribute__» ⟨[.ref a, .str "add" u], []⟩) Q E ⟨h, g, d, t, os⟩ := by
  have hT : ∀ tk', (⟨h, g, d, tk', os⟩ : Shared).TypeIs (.ref a) "set" := fun _ => ⟨_, hx, rfl⟩
  have hT5 : ∀ tk', (⟨h, g, d, tk', os⟩ : Shared).TypeIs (.builtin "set.add") "method_descriptor" := fun _ => F.type_set_add
  have f4 := F.slot_set_add.lookup
  have f5 := slot_md_get.lookup
  have f6 := look_md_set
  have f7 := look_md_delete
  have f9 := F.type_set_add
  repeat (any_goals (first | assumption | exact hT _ | exact hT5 _ | wp_step))
  refine bind_set_add hx rfl ?_
  repeat (any_goals (first | assumption | wp_step))

theorem attr_set_add {es : Array (Int × Value)} {ep : Nat} {tb : SetTable} {Q : Value → Shared → Prop} (hx : h.get? a = some { cls := .type "set", dict := none, data := .set es ep tb, slots := #[] })
    (hq : Q (.ref h.objs.size) ⟨h.push (boundB "set.add" (.ref a)), g, d, t + 1, os⟩) :
    wpAny (model prog w) A (getAttr (.ref a) "add" true) Q E ⟨h, g, d, t, os⟩ := by
  have hT : ∀ tk', (⟨h, g, d, tk', os⟩ : Shared).TypeIs (.ref a) "set" := fun _ => ⟨_, hx, rfl⟩
  have f2 := F.slot_set_getattribute.lookup
  have f3 := F.slot_set_getattribute.bind (.ref a)
  unfold getAttr getAttrBy
  repeat (any_goals (first | assumption | exact hT _ | wp_step))
  refine codeAny_call_builtin F.slot_set_getattribute.plain F.entry_set_ga (F.slot_set_getattribute.check _ _ _ _ _ _ _ _ (hT _) (F.args_set_getattribute_2 _ _) (got_set_add hx ?_))
  repeat (any_goals (first | assumption | wp_step))

theorem owner_set_contains : ".".intercalate ("set.__contains__".cutAt '.').dropLast = "set" := by decide +kernel
theorem bind_set_contains {R : Result → Shared → Prop} (hx : h.get? a = some o) (hc : o.cls = .type "set")
    (hq : R (.ok (.ret (.ref h.objs.size))) ⟨h.push (boundB "set.__contains__" (.ref a)), g, d, t, os⟩) :
    codeAny (model prog w) A (.call (.builtin "method_descriptor.__get__") ⟨[.builtin "set.__contains__", .ref a, .type "set"], []⟩) R ⟨h, g, d, t, os⟩ := by
  have hT : (⟨h, g, d, t, os⟩ : Shared).TypeIs (.ref a) "set" := ⟨_, hx, hc⟩
  have hT5 : (⟨h, g, d, t, os⟩ : Shared).TypeIs (.builtin "set.__contains__") "method_descriptor" := F.type_set_contains
  have f8 : isSubtype (.type "set") (.type (".".intercalate ("set.__contains__".cutAt '.').dropLast)) = pure true := by rw [owner_set_contains]; exact sub_set_set
  refine codeAny_call_builtin slot_md_get.plain entry_md_get (slot_md_get.check _ _ _ _ _ _ _ _ hT5 (args_md_get _ _ _) ?_)
  repeat (any_goals (first | assumption | wp_step))

theorem got_set_contains {u : Tok} {es : Array (Int × Value)} {ep : Nat} {tb : SetTable} {Q : Fin → Shared → Prop} (hx : h.get? a = some { cls := .type "set", dict := none, data := .set es ep tb, slots := #[] })
    (hq : Q (.done (.ret (.ref h.objs.size))) ⟨h.push (boundB "set.__contains__" (.ref a)), g, d, t, os⟩) :
    wpAny (model prog w) A (Builtin.«object.__getattribute__» ⟨[.ref a, .str "__contains__" u], []⟩) Q E ⟨h, g, d, t, os⟩ := by
  have hT : ∀ tk', (⟨h, g, d, tk', os⟩ : Shared).TypeIs (.ref a) "set" := fun _ => ⟨_, hx, rfl⟩
  have hT5 : ∀ tk', (⟨h, g, d, tk', os⟩ : Shared).TypeIs (.builtin "set.__contains__") "method_descriptor" := fun _ => F.type_set_contains
  have f4 := F.slot_set_contains.lookup
  have f5 := slot_md_get.lookup
  have f6 := look_md_set
  have f7 := look_md_delete
  have f9 := F.type_set_contains
  repeat (any_goals (first | assumption | exact hT _ | exact hT5 _ | wp_step))
  refine bind_set_contains hx rfl ?_
  repeat (any_goals (first | assumption | wp_step))

theorem attr_set_contains {es : Array (Int × Value)} {ep : Nat} {tb : SetTable} {Q : Value → Shared → Prop} (hx : h.get? a = some { cls := .type "set", dict := none, data := .set es ep tb, slots := #[] })
    (hq : Q (.ref h.objs.size) ⟨h.push (boundB "set.__contains__" (.ref a)), g, d, t + 1, os⟩) :
    wpAny (model prog w) A (getAttr (.ref a) "__contains__" true) Q E ⟨h, g, d, t, os⟩ := by
  have hT : ∀ tk', (⟨h, g, d, tk', os⟩ : Shared).TypeIs (.ref a) "set" := fun _ => ⟨_, hx, rfl⟩
  have f2 := F.slot_set_getattribute.lookup
  have f3 := F.slot_set_getattribute.bind (.ref a)
  unfold getAttr getAttrBy
  repeat (any_goals (first | assumption | exact hT _ | wp_step))
  refine codeAny_call_builtin F.slot_set_getattribute.plain F.entry_set_ga (F.slot_set_getattribute.check _ _ _ _ _ _ _ _ (hT _) (F.args_set_getattribute_2 _ _) (got_set_contains hx ?_))
  repeat (any_goals (first | assumption | wp_step))
end
end
end Mine

namespace Mine
section
set_option maxRecDepth 100000
set_option maxHeartbeats 1000000
open PySem.Builtin

section
variable {prog : Program} {w : World} {A : Around} {E : Value → Shared → Prop} {s : Shared} {a q : Addr}

theorem run_set_add {k : Int} {tk : Tok} {S : Int → Bool} {n : Nat} {Q : Fin → Shared → Prop} (hS : s.heap.SetOf (intKind prog w) a S n) (hroom : n + 1 < scanBound)
    (h : ∀ h', Heap.SameBut a s.heap h' → h'.SetOf (intKind prog w) a (fun k' => S k' || decide (k' = k)) (if S k then n else n + 1) → Q (.done (.ret .none)) { s with heap := h', toks := s.toks + 1 }) :
    wpAny (model prog w) A (Builtin.«set.add» ⟨[.ref a, .int k tk], []⟩) Q E s := by
  have hkey : (intKind prog w).is k (.int k tk) = true := intKind_is _ _ _ _
  unfold Builtin.«set.add» Builtin.Frozenset.oneOther
  simp only [List.isEmpty_nil, bind_assoc]
  unfold Builtin.Frozenset.addrOf setAdd
  refine wpAny_bind (wpAny_pure ?_)
  try dsimp only
  refine wpAny_bind (wpAny_pure ?_)
  try dsimp only
  refine wpAny_bind ?_
  refine wpAny_holding ?_
  refine wpAny_bind ((intKind prog w).pyHash hkey ?_)
  refine wpAny_setAddHashed_of (s := { s with toks := s.toks + 1 }) hkey rfl hS hroom fun h' hsb hS' => ?_
  show wpAny _ _ (ret Value.none) _ _ _
  exact wpAny_pure (h h' hsb hS')

theorem run_set_contains {k : Int} {tk : Tok} {S : Int → Bool} {n : Nat} {Q : Fin → Shared → Prop} (hS : s.heap.SetOf (intKind prog w) a S n)
    (h : Q (.done (.ret (.bool (S k)))) { s with toks := s.toks + 1 }) :
    wpAny (model prog w) A (Builtin.«frozenset.__contains__» ⟨[.ref a, .int k tk], []⟩) Q E s := by
  have hkey : (intKind prog w).is k (.int k tk) = true := intKind_is _ _ _ _
  unfold Builtin.«frozenset.__contains__» Builtin.Frozenset.oneOther
  simp only [List.isEmpty_nil, bind_assoc]
  unfold Builtin.Frozenset.addrOf Builtin.Frozenset.withSetAsKey setContains
  refine wpAny_bind (wpAny_pure ?_)
  try dsimp only
  refine wpAny_bind (wpAny_pure ?_)
  try dsimp only
  refine wpAny_bind (wpAny_tryCatch ?_)
  refine wpAny_holding ?_
  refine wpAny_bind ((intKind prog w).pyHash hkey ?_)
  refine wpAny_bind (wpAny_setFind_of (s := { s with toks := s.toks + 1 }) hkey rfl hS fun r hr => ?_)
  refine wpAny_pure ?_
  show wpAny _ _ (ret (Value.bool r.isSome)) _ _ _
  rw [hr]
  exact wpAny_pure h

theorem sub_set_module : isSubtype (.type "set") (.type "module") = pure false := by rw [isSubtype_type]; kernel_rfl
theorem sub_set_type : isSubtype (.type "set") (.type "type") = pure false := by rw [isSubtype_type]; kernel_rfl
theorem varargs_add : Manifest.varargsMethods.contains "set.add" = false := by decide +kernel
theorem varargs_contains : Manifest.varargsMethods.contains "set.__contains__" = false := by decide +kernel

theorem bound_check_add {x : Value} {es : Array (Int × Value)} {ep : Nat} {tb : SetTable} {Q : Unit → Shared → Prop} (hx : s.heap.get? a = some { cls := .type "set", dict := none, data := .set es ep tb, slots := #[] }) (hq : Q () s) :
    wpAny (model prog w) A (checkBoundCall "set.add" ⟨[.ref a, x], []⟩) Q E s := by
  obtain ⟨hp, g, d, t, os⟩ := s
  have hT : (⟨hp, g, d, t, os⟩ : Shared).TypeIs (.ref a) "set" := ⟨_, hx, rfl⟩
  have f1 := sub_set_module
  repeat (any_goals (first | assumption | wp_step))
theorem bound_check_contains {x : Value} {es : Array (Int × Value)} {ep : Nat} {tb : SetTable} {Q : Unit → Shared → Prop} (hx : s.heap.get? a = some { cls := .type "set", dict := none, data := .set es ep tb, slots := #[] }) (hq : Q () s) :
    wpAny (model prog w) A (checkBoundCall "set.__contains__" ⟨[.ref a, x], []⟩) Q E s := by
  obtain ⟨hp, g, d, t, os⟩ := s
  have hT : (⟨hp, g, d, t, os⟩ : Shared).TypeIs (.ref a) "set" := ⟨_, hx, rfl⟩
  have f1 := sub_set_module
  repeat (any_goals (first | assumption | wp_step))

theorem setOf_obj {h : Heap} {S : Int → Bool} {n : Nat} (hS : h.SetOf (intKind prog w) a S n) : ∃ es ep tb, h.get? a = some { cls := .type "set", dict := none, data := .set es ep tb, slots := #[] } := by
  obtain ⟨o, es, ep, tb, ho, ⟨h1, h2, h3⟩, hd, _⟩ := hS
  obtain ⟨c, dct, dat, sl⟩ := o
  simp only at h1 h2 h3 hd
  subst h1 h2 h3 hd
  exact ⟨es, ep, tb, ho⟩

theorem callAny_bound {args : List Value} : callAny (.ref q) ⟨args, []⟩ = (do
    let o ← load q
    match o.data with
    | .func fd => callFunction q fd ⟨args, []⟩
    | .fields vs =>
      if o.cls == .type "method" || o.cls == .type "builtin_function_or_method" || o.cls == .type "method-wrapper" then
        let (some func, some self) := (vs[0]?, vs[1]?) | unsupported "internal:method-record"
        let all : Args := ⟨self :: args, []⟩
        if let .builtin bid := func then
          if o.cls != .type "method" then
            checkBoundCall bid all
            return ← again (.builtin bid all)
        again (.call func all)
      else callAny.viaDunder (.ref q) ⟨args, []⟩
    | _ => callAny.viaDunder (.ref q) ⟨args, []⟩) := rfl

theorem codeAny_bound {id : String} {self : Value} {args : List Value} {R : Result → Shared → Prop} (hq : s.heap.get? q = some (boundB id self))
    (hqt : (Code.builtin id ⟨self :: args, []⟩).quiet = true)
    (h : wpAny (model prog w) A.in1 (checkBoundCall id ⟨self :: args, []⟩) (fun _ s₁ => codeAny (model prog w) A (.builtin id ⟨self :: args, []⟩) R s₁) (fun e s' => R (.error e) s') s) :
    codeAny (model prog w) A (.call (.ref q) ⟨args, []⟩) R s := by
  refine codeAny_of_tree ?_
  show wpAny _ A.in1 (callAny (.ref q) ⟨args, []⟩) _ _ s
  rw [callAny_bound]
  refine wpAny_bind (wpAny_load hq ?_)
  show wpAny _ _ (do checkBoundCall id ⟨self :: args, []⟩; again (.builtin id ⟨self :: args, []⟩)) _ _ s
  exact wpAny_bind (wpAny_mono h (fun _ s₁ h₁ => wpAny_pure ⟨hqt, h₁⟩) fun _ _ x => x)

theorem call_bound_add {k : Int} {tk : Tok} {S : Int → Bool} {n : Nat} {Q : Value → Shared → Prop} (hq : s.heap.get? q = some (boundB "set.add" (.ref a))) (hS : s.heap.SetOf (intKind prog w) a S n) (hroom : n + 1 < scanBound)
    (h : ∀ h', Heap.SameBut a s.heap h' → h'.SetOf (intKind prog w) a (fun k' => S k' || decide (k' = k)) (if S k then n else n + 1) → Q .none { s with heap := h', toks := s.toks + 1 }) :
    wpAny (model prog w) A (call (.ref q) [.int k tk]) Q E s := by
  obtain ⟨es, ep, tb, hx⟩ := setOf_obj hS
  refine wpAny_call (codeAny_bound hq (Code.quiet_builtin _ (by decide +kernel)) (bound_check_add hx (codeAny_builtin F.entry_set_add (run_set_add hS hroom fun h' a b => ?_))))
  exact h h' a b

theorem call_bound_contains {k : Int} {tk : Tok} {S : Int → Bool} {n : Nat} {Q : Value → Shared → Prop} (hq : s.heap.get? q = some (boundB "set.__contains__" (.ref a))) (hS : s.heap.SetOf (intKind prog w) a S n)
    (h : Q (.bool (S k)) { s with toks := s.toks + 1 }) :
    wpAny (model prog w) A (call (.ref q) [.int k tk]) Q E s := by
  obtain ⟨es, ep, tb, hx⟩ := setOf_obj hS
  refine wpAny_call (codeAny_bound hq (Code.quiet_builtin _ (by decide +kernel)) (bound_check_contains hx (codeAny_builtin entry_set_contains (run_set_contains hS ?_))))
  exact h

theorem callWith_bound1 {M : Model} {id : String} {self : Value} {pos : Pos} {env : Env} {e : Expr} {Q : Value → Shared → Prop}
    (h : wpAny M A (eval e env) (fun v s₁ => s₁.heap.get? q = some (boundB id self) ∧ wpAny M A (call (.ref q) [v]) Q E s₁) E s)
    (he : starEach [e] env = [(false, eval e env)] := by rfl) :
    wpAny M A (callWith pos (.ref q) [] (backTo pos (starEach [e] env)) []) Q E s := by
  rw [he]
  show wpAny M A (callWith pos (.ref q) [] ((false, _) :: []) []) Q E s
  unfold callWith
  refine wpAny_bind (wpAny_holding (PySem.Calls.evalArgs_plain (PySem.Calls.spliced_cons ?_)))
  refine wpAny_mono (Q := fun v s₁ => s₁.heap.get? q = some (boundB id self) ∧ wpAny M A (call (.ref q) [v]) Q E s₁) ?_ (fun v s₁ h₁ => PySem.Calls.spliced_nil ?_) fun _ _ x => x
  · exact h
  · refine wpAny_bind (wpAny_standAt ?_)
    obtain ⟨ho, hcall⟩ := h₁
    simp only [List.any_cons, List.any_nil, Bool.or_false]
    refine wpAny_bind (m := keeperOf (.ref q)) ?_
    unfold keeperOf
    refine wpAny_bind (wpAny_load ho ?_)
    simp only [show (Value.type "builtin_function_or_method" != Value.type "method") = true by decide, show (Value.type "builtin_function_or_method" == Value.type "builtin_function_or_method" || Value.type "builtin_function_or_method" == Value.type "method-wrapper") = true by decide, if_true]
    refine wpAny_pure ?_
    exact wpAny_bind (wpAny_mono hcall (fun r s₂ hr => wpAny_bind (wpAny_holding (wpAny_point (wpAny_pure hr)))) fun _ _ x => x)
end
end
end Mine

namespace Mine
section
set_option maxRecDepth 100000
open PySem.Builtin

section
variable {prog : Program} {w : World} {A : Around} {R : GenEnd} {Y : Protocol} {n : Nat} {s₀ : Shared} {c : Code} {fs : List Frame} {s : Shared} {env : Env}
  {K : Flow → Sem Fin} {H : Value → Sem Fin} {gd : Bool → Bool} {lv : List Value → List Value}

theorem seg_If {test : Expr} {body orelse : List Stmt} {pos : Pos}
    (h : wpAny (model prog w) (A.over c fs) (isTrue test env (eval test env)) (fun b s' => Seg (model prog w) A R Y n s₀ c ((if b = true then execs body env else execs orelse env).wrap K H gd lv) fs s')
      (fun x s' => Seg (model prog w) A R Y n s₀ c (H x) fs s') s) :
    Seg (model prog w) A R Y n s₀ c ((exec (.If test body orelse pos) env).wrap K H gd lv) fs s := by
  rw [exec_If]
  refine seg_bind_wrap (wpAny_standAt ?_)
  refine seg_bind_wrap (wpAny_mono h (fun b s' hb => ?_) fun _ _ x => x)
  exact hb

theorem seg_plain {st : Stmt} (h : wpAny (model prog w) (A.over c fs) (exec st env) (fun f s' => Seg (model prog w) A R Y n s₀ c (K f) fs s') (fun x s' => Seg (model prog w) A R Y n s₀ c (H x) fs s') s) :
    Seg (model prog w) A R Y n s₀ c ((exec st env).wrap K H gd lv) fs s := seg_wrap h

/-- what a `for` hands back to its block -/
def backK (env : Env) (K : Flow → Sem Fin) (H : Value → Sem Fin) (gd : Bool → Bool) (lv : List Value → List Value) (r : Result) : Sem Fin :=
  ((match r with | .ok f => (.pure f : Sem Flow) | .error e => .raise e).onRaise fun (x : Value) => do
        if (← field x 1) == Value.none then unsupported "frame.own-activation:exception-without-traceback"
        setFlight x env.frame).wrap K H gd lv

theorem seg_For {target iter : Expr} {body orelse : List Stmt} {pos : Pos}
    (h : wpAny (model prog w) (A.over c fs) (eval iter env) (fun xv s₁ => wpAny (model prog w) (A.over c fs) (pyIter xv) (fun it s₂ =>
        ∀ p, Seg (model prog w) A R Y n s₀ (.forLoop target it body orelse env) ((model prog w).den (.forLoop target it body orelse env)) (.ret (backK env K H gd lv) none (gd false) (lv []) c p [] :: fs) s₂)
      (fun x s' => Seg (model prog w) A R Y n s₀ c (H x) fs s') s₁) (fun x s' => Seg (model prog w) A R Y n s₀ c (H x) fs s') s)
    (hs : ∀ x, foldedSetIterable iter env x = pure x) :
    Seg (model prog w) A R Y n s₀ c ((exec (.For target iter body orelse pos) env).wrap K H gd lv) fs s := by
  have e : exec (.For target iter body orelse pos) env = (do
    standAt pos
    let x ← foldedSetIterable iter env (← eval iter env)
    standAt iter.pos
    runOwn (.forLoop target (← holding [x] (pyIter x)) body orelse env) env) := rfl
  rw [e]
  refine seg_bind_wrap (wpAny_standAt ?_)
  refine seg_bind_wrap (wpAny_mono h (fun xv s₁ h₁ => ?_) fun _ _ x => x)
  refine seg_bind_wrap (wpAny_of_eq (hs xv) ?_)
  refine seg_bind_wrap (wpAny_standAt ?_)
  refine seg_bind_wrap (wpAny_holding (wpAny_mono h₁ (fun it s₂ h₂ => ?_) fun _ _ x => x))
  unfold runOwn run
  rw [Sem.onRaise_eq_wrap, Sem.wrap_wrap]
  show Seg _ A R Y n s₀ c (.call _ none (gd false) (lv []) _) fs s₂
  refine seg_call fun p => ?_
  refine cast ?_ (h₂ p)
  congr 3
  funext r
  cases r with
  | ok f => rfl
  | error x =>
    unfold backK
    rw [Sem.onRaise_eq_wrap, Sem.wrap_wrap]

def turnK (target : Expr) (it : Value) (body : List Stmt) (env : Env) (f : Flow) : Sem Fin := match f with
  | .next | .cont => .pure (.again (.forLoop target it body [] env))
  | .brk => .pure (.done .next)
  | .ret v => .pure (.done (.ret v))
def turnH (env : Env) (e : Value) : Sem Fin := (do noteFrame e env; theTreesLotGoes e : Sem Unit).wrap (fun _ => .raise e) .raise id id

theorem seg_forLoop {x : Str} {px : Pos} {it : Value} {body : List Stmt}
    (h : wpAny (model prog w) (A.over (.forLoop (.Name x px) it body [] env) fs) (pyNext it) (fun r s₁ => match r with
      | none => Seg (model prog w) A R Y n s₀ (.block [] env) ((model prog w).den (.block [] env)) fs s₁
      | some v => wpAny (model prog w) (A.over (.forLoop (.Name x px) it body [] env) fs) (storeName env x v) (fun _ s₂ =>
          Seg (model prog w) A R Y n s₀ (.forLoop (.Name x px) it body [] env) ((execs body env).wrap (turnK (.Name x px) it body env) (turnH env) id id) fs s₂) (fun _ _ => False) s₁) (fun _ _ => False) s) :
    Seg (model prog w) A R Y n s₀ (.forLoop (.Name x px) it body [] env) ((model prog w).den (.forLoop (.Name x px) it body [] env)) fs s := by
  show Seg _ A R Y n s₀ _ ((forTurn (.Name x px) it body [] env).onRaise (fun x => do noteFrame x env; theTreesLotGoes x)) fs s
  unfold forTurn
  rw [Sem.onRaise_eq_wrap]
  refine seg_bind_wrap (wpAny_standAt ?_)
  refine seg_bind_wrap (wpAny_onRaise (wpAny_mono h (fun r s₁ h₁ => ?_) fun _ _ x => x.elim))
  cases r with
  | none => exact seg_again rfl h₁
  | some v =>
    refine seg_bind_wrap (wpAny_of_eq (rfl : letOwnedTupleGo (.Name x px) it v = pure ()) ?_)
    refine seg_bind_wrap (wpAny_assign_Name (wpAny_mono h₁ (fun _ s₂ h₂ => ?_) fun _ _ x => x.elim))
    rw [Sem.bind_eq_wrap', Sem.wrap_wrap]
    refine cast ?_ h₂
    congr 1
    refine Sem.wrap_congr _ _ _ (fun f => ?_) fun e => ?_
    · cases f <;> rfl
    · show (_ : Sem Fin) = _
      unfold turnH
      exact (Sem.bind_eq_wrap _ _).symm ▸ rfl

theorem seg_block_nil {k : Result → Sem Fin} {h₁ : Option Value} {g : Bool} {l : List Value} {c₁ : Code} {p₁ : Pos} {kp : List Value} (h : Seg (model prog w) A R Y n s₀ c₁ (k (.ok .next)) fs s) :
    Seg (model prog w) A R Y n s₀ (.block [] env) ((model prog w).den (.block [] env)) (.ret k h₁ g l c₁ p₁ kp :: fs) s :=
  seg_leaf (.ok .next) h
end
end
end Mine

namespace Mine
section
set_option maxRecDepth 100000
open PySem.Builtin

/-- from one stop of the generator to the next: what stood at `st` and is not of `wr` stands; a frame of `fr` keeps its names -/
structure Sn (st : Heap) (wr fr : Addr → Prop) (s₀ s : Shared) : Prop where
  same : ∃ h tk, s = { s₀ with heap := h, toks := tk }
  keep : ∀ b o, (∃ o', st.get? b = some o') → ¬ wr b → s₀.heap.get? b = some o → s.heap.get? b = some o
  frm : ∀ b m, fr b → s₀.heap.Ns b m → s.heap.Ns b m

theorem Sn.refl (st : Heap) (wr fr : Addr → Prop) (s : Shared) : Sn st wr fr s s := ⟨⟨_, _, rfl⟩, fun _ _ _ _ e => e, fun _ _ _ e => e⟩
theorem Sn.trans {st : Heap} {wr fr : Addr → Prop} {s₁ s₂ s₃ : Shared} (x : Sn st wr fr s₁ s₂) (y : Sn st wr fr s₂ s₃) : Sn st wr fr s₁ s₃ := by
  obtain ⟨h, tk, rfl⟩ := x.same
  obtain ⟨h', tk', rfl⟩ := y.same
  exact ⟨⟨h', tk', rfl⟩, fun b o hb hw e => y.keep b o hb hw (x.keep b o hb hw e), fun b m hf e => y.frm b m hf (x.frm b m hf e)⟩
theorem Sn.ext {st : Heap} {wr fr : Addr → Prop} {s₀ s : Shared} {h : Heap} {tk : Nat} (x : Sn st wr fr s₀ s) (hk : ∀ b o, s.heap.get? b = some o → h.get? b = some o) : Sn st wr fr s₀ { s with heap := h, toks := tk } :=
  x.trans ⟨⟨_, _, rfl⟩, fun b o _ _ e => hk b o e, fun b _ _ e => e.keeps hk⟩

/-- what the consumer may change between two stops: its own objects, and it lets none go -/
def Fw (mine : Addr → Prop) (h h' : Heap) : Prop := (∀ b o, ¬ mine b → h.get? b = some o → h'.get? b = some o) ∧ (∀ b, (∃ o, h.get? b = some o) → ∃ o, h'.get? b = some o) ∧ ∀ b, (∃ m, h.Ns b m) → ∃ m, h'.Ns b m
theorem Fw.refl (mine : Addr → Prop) (h : Heap) : Fw mine h h := ⟨fun _ _ _ e => e, fun _ e => e, fun _ e => e⟩
theorem Fw.trans {mine : Addr → Prop} {h₁ h₂ h₃ : Heap} (x : Fw mine h₁ h₂) (y : Fw mine h₂ h₃) : Fw mine h₁ h₃ := ⟨fun b o hb e => y.1 b o hb (x.1 b o hb e), fun b e => y.2.1 b (x.2.1 b e), fun b e => y.2.2 b (x.2.2 b e)⟩
theorem Fw.of_ext {mine : Addr → Prop} {h h' : Heap} (x : ∀ b o, h.get? b = some o → h'.get? b = some o) : Fw mine h h' := ⟨fun b o _ e => x b o e, fun b ⟨o, e⟩ => ⟨o, x b o e⟩, fun b ⟨m, e⟩ => ⟨m, e.keeps x⟩⟩
theorem Fw.at {S : Addr} {h h' : Heap} {o o' : Obj} {acc : Array Value} {c : Nat} (x : ∀ b o, ¬ (b = S) → h.get? b = some o → h'.get? b = some o) (h0 : h.get? S = some o) (hd : o.data = .seq acc c) (hS : h'.get? S = some o') : Fw (· = S) h h' :=
  ⟨x, fun b ⟨o, e⟩ => by by_cases hb : b = S; exact ⟨o', hb ▸ hS⟩; exact ⟨o, x b o hb e⟩, fun b ⟨m, e⟩ => by
    by_cases hb : b = S
    · obtain ⟨o₁, _, _, ho, hdd, _⟩ := e
      rw [hb, h0] at ho
      cases ho; rw [hd] at hdd; cases hdd
    · exact ⟨m, e.at' fun o q => x b o hb q⟩⟩
theorem Fw.store {L : Addr} {h h' : Heap} {m : Str → Option Value} (x : ∀ b o, ¬ (b = L) → h.get? b = some o → h'.get? b = some o) (hn : h'.Ns L m) : Fw (· = L) h h' :=
  ⟨x, fun b ⟨o, e⟩ => by by_cases hb : b = L; exact hb ▸ (let ⟨o, _, _, ho, _⟩ := hn; ⟨o, ho⟩); exact ⟨o, x b o hb e⟩, fun b ⟨m₀, e⟩ => by
    by_cases hb : b = L
    · exact ⟨m, hb ▸ hn⟩
    · exact ⟨m₀, e.at' fun o q => x b o hb q⟩⟩

def tz : Nat → Heap → Prop := fun _ _ => True
def Yp (st : Heap) (wr fr mine : Addr → Prop) (us : List Int) (full : Prop) (zz : Nat → Heap → Prop) : Protocol := fun m s₀ v s kap =>
  (∃ x t, us[us.length - 1 - m]? = some x ∧ v = .int x t ∧ zz m s.heap) ∧ Sn st wr fr s₀ s ∧
    ((m = 0 → full) → ∀ s'' : Shared, Fw mine s.heap s''.heap → kap (.send .none) s'')
def Rp (st : Heap) (wr fr : Addr → Prop) : GenEnd := fun n s₀ r s₁ => r = .ok (.ret .none) ∧ (n = 0 ∧ Sn st wr fr s₀ s₁)

def GAt (prog : Program) (w : World) (A : Around) (a : Addr) (g : Nat) (st : Heap) (wr fr mine : Addr → Prop) (us : List Int) (full : Prop) (zz : Nat → Heap → Prop) (m : Nat) (s : Shared) : Prop :=
  s.heap.IsGen a g ∧ s.heap.NoLimit ∧ ∃ gs, s.gens[g]? = some gs ∧ ∀ s'' : Shared, Fw mine s.heap s''.heap →
    gs.Goes (model prog w) A (Rp st wr fr) (Yp st wr fr mine us full zz) m (.send .none) s''

/-- what one `next` of the generator does to the whole state -/
structure Mv (st : Heap) (wr fr : Addr → Prop) (g : Nat) (s s' : Shared) : Prop where
  keep : ∀ b o, (∃ o', st.get? b = some o') → ¬ wr b → s.heap.get? b = some o → s'.heap.get? b = some o
  frm : ∀ b m, fr b → s.heap.Ns b m → s'.heap.Ns b m
  gens : GenOnlyQ g s.gens s'.gens
  drawn : s'.drawn = s.drawn
  os : s'.os = s.os
theorem Mv.trans {st : Heap} {wr fr : Addr → Prop} {g : Nat} {s₁ s₂ s₃ : Shared} (x : Mv st wr fr g s₁ s₂) (y : Mv st wr fr g s₂ s₃) : Mv st wr fr g s₁ s₃ :=
  ⟨fun b o hb hw e => y.keep b o hb hw (x.keep b o hb hw e), fun b m hf e => y.frm b m hf (x.frm b m hf e), x.gens.trans y.gens, y.drawn.trans x.drawn, y.os.trans x.os⟩
theorem Mv.weaken {st : Heap} {wr wr' fr fr' : Addr → Prop} {g : Nat} {s s' : Shared} (x : Mv st wr fr g s s') (hw : ∀ b, wr b → wr' b) (hf : ∀ b, fr' b → fr b) : Mv st wr' fr' g s s' :=
  ⟨fun b o hb h e => x.keep b o hb (fun q => h (hw b q)) e, fun b m h e => x.frm b m (hf b h) e, x.gens, x.drawn, x.os⟩

section
variable {prog : Program} {w : World} {A : Around} {E : Value → Shared → Prop} {s : Shared}

theorem special_next {a : Addr} {g n : Nat} {gs : GenState} {P : Nat → Shared → Shared → Prop} {Y : Protocol} {Q : Option Value → Shared → Prop} (hh : A.handled = none)
    (hl : s.heap.NoLimit) (hroom : A.depth < recursionLimit) (hg : s.heap.IsGen a g) (hgs : s.gens[g]? = some gs)
    (hgo : gs.Goes (model prog w) A.in1 (fun n s₀ r s₁ => r = .ok (.ret .none) ∧ P n s₀ s₁) Y n (.send .none) (s.setGen g .running))
    (hY : ∀ v s₁ gs', gs'.bare = true → Y (n - 1) (s.setGen g .running) v s₁ (fun r' s'' => match n with
        | 0 => False
        | m + 1 => gs'.Goes (model prog w) A.in1 (fun n s₀ r s₁ => r = .ok (.ret .none) ∧ P n s₀ s₁) Y m r' s'') → Q (some v) (s₁.setGen g gs'))
    (hP : ∀ s₁, P n (s.setGen g .running) s₁ → ∀ h' e, (∀ b o, s₁.heap.get? b = some o → h'.get? b = some o) → (∃ o, h'.get? e = some o ∧ o.cls = .type "StopIteration") → E (.ref e) { s₁.setGen g .finished with heap := h' }) :
    wpAny (model prog w) A (callSpecial? (.ref a) "__next__") Q E s := by
  refine wpAny_callSpecial?_slot (name := Str.ofString "__next__") hg.typeIs slot_gen_next
    (wpAny_call_entry slot_gen_next hg.typeIs entry_gen_next ?_ (args_gen_next _))
  show wpAny _ A.in1 (Builtin.Generator.genWake (.ref a) (.send .none)) _ _ s
  unfold Builtin.Generator.genWake
  refine wpAny_bind (wpAny_holding (wpAny_genNumber hg (wpAny_bind (wpAny_genState hgs ?_))))
  cases gs with
  | running => exact hgo.elim
  | finished => exact hgo.elim
  | _ =>
    refine wpAny_bind (wpAny_roomToWake hl hroom ?_)
    show wpAny _ A.in1 (.resume g (.send .none) [] _) _ _ s
    refine wpAny_resumeQ hgs hgo (fun x s₁ hx => ?_) (fun v s₁ gs' hb hv => ?_)
    · obtain ⟨rfl, hp⟩ := hx
      show wpAny _ A.in1 (newExc (.type "StopIteration") [] >>= _) _ _ _
      refine wpAny_bind ?_
      simp only [newExc, newTuple]
      refine wpAny_bind (wpAny_newObj_type ?_ (by size_fits))
      refine wpAny_bind (m := firstArgMember _ _) (wpAny_of_eq (a := Value.none) (by first | rfl | (simp only [firstArgMember]; rfl)) ?_)
      refine wpAny_newObj_type ?_ (by size_fits)
      simp only [raiseNew]
      refine wpAny_bind (wpAny_bind (wpAny_handled ?_))
      first | rw [show A.in1.handled = none from hh] | rw [hh]
      refine wpAny_throw ?_
      exact hP s₁ hp _ _ (fun b o hb => Heap.get?_push_of_some _ (Heap.get?_push_of_some _ hb)) ⟨_, Heap.get?_push_size _ rfl, rfl⟩
    · exact wpAny_pure ⟨v, rfl, hY v s₁ gs' hb hv⟩

theorem Sn.mv {st : Heap} {wr fr : Addr → Prop} {g : Nat} {gs x : GenState} {s₁ : Shared} (hs : Sn st wr fr (s.setGen g .running) s₁) (hgs : s.gens[g]? = some gs) (hb : x.bare = true) : Mv st wr fr g s (s₁.setGen g x) := by
  obtain ⟨h, tk, rfl⟩ := hs.same
  exact ⟨hs.keep, hs.frm, .of ((GenOnly.setGen s g .running).trans (GenOnly.setGen _ g x)) (setGen_self (setGen_self hgs)) hb, rfl, rfl⟩

variable {a : Addr} {g : Nat} {st : Heap} {wr fr mine : Addr → Prop} {us : List Int} {full : Prop} {zz : Nat → Heap → Prop}

theorem gat_item {m : Nat} {Q : Option Value → Shared → Prop} (hh : A.handled = none) (hroom : A.depth < recursionLimit) (G : GAt prog w A.in1 a g st wr fr mine us full zz (m + 1) s)
    (ha : ∃ o, st.get? a = some o) (hwa : ¬ wr a) (hc : ∃ o, st.get? cStatics = some o) (hwc : ¬ wr cStatics)
    (hQ : ∀ x t s', us[us.length - 1 - m]? = some x → Mv st wr fr g s s' → zz m s'.heap → ((m = 0 → full) → GAt prog w A.in1 a g st wr fr mine us full zz m s') → Q (some (.int x t)) s') :
    wpAny (model prog w) A (callSpecial? (.ref a) "__next__") Q E s := by
  obtain ⟨hg, hl, gs, hgs, hgo⟩ := G
  refine special_next (P := fun n s₀ s₁ => n = 0 ∧ Sn st wr fr s₀ s₁) (Y := Yp st wr fr mine us full zz) hh hl hroom hg hgs (hgo _ (Fw.refl _ _)) (fun v s₁ gs' hb hv => ?_) fun s₁ hp => absurd hp.1 (Nat.succ_ne_zero m)
  obtain ⟨⟨x, t, hx, rfl, hzz⟩, hsn, hk⟩ := hv
  refine hQ x t _ hx (hsn.mv hgs hb) hzz fun hf => ⟨?_, ?_, gs', ?_, fun s'' hs'' => hk hf s'' hs''⟩
  · obtain ⟨o, nm, qn, ho, r⟩ := hg
    exact ⟨o, nm, qn, hsn.keep a o ha hwa ho, r⟩
  · obtain ⟨mc, hns, hnn⟩ := hl
    exact ⟨mc, hns.at' fun o e => hsn.keep _ o hc hwc e, hnn⟩
  · obtain ⟨h, tk, rfl⟩ := hsn.same
    exact setGen_self (setGen_self hgs)

theorem gat_end {Q : Option Value → Shared → Prop} (hf : full) (hh : A.handled = none) (hroom : A.depth < recursionLimit) (G : GAt prog w A.in1 a g st wr fr mine us full zz 0 s)
    (hQ : ∀ s' e, Mv st wr fr g s s' → (∃ o, s'.heap.get? e = some o ∧ o.cls = .type "StopIteration") → E (.ref e) s') :
    wpAny (model prog w) A (callSpecial? (.ref a) "__next__") Q E s := by
  obtain ⟨hg, hl, gs, hgs, hgo⟩ := G
  refine special_next (P := fun n s₀ s₁ => n = 0 ∧ Sn st wr fr s₀ s₁) (Y := fun m s₀ v s kap => Yp st wr fr mine us full zz m s₀ v s kap) hh hl hroom hg hgs (hgo _ (Fw.refl _ _)) (fun v s₁ gs' hb hv => ?_) fun s₁ hp h' e hk he => ?_
  · exact (hv.2.2 (fun _ => hf) s₁ (Fw.refl _ _)).elim
  · have hm := hp.2.mv (x := .finished) hgs rfl
    exact hQ _ e ⟨fun b o hb hw q => hk b o (hm.keep b o hb hw q), fun b m hfb q => (hm.frm b m hfb q).keeps hk, hm.gens, hm.drawn, hm.os⟩ he

theorem pyNext_item {m : Nat} {Q : Option Value → Shared → Prop} (hh : A.handled = none) (hroom : A.depth < recursionLimit) (G : GAt prog w A.in1 a g st wr fr mine us full zz (m + 1) s)
    (ha : ∃ o, st.get? a = some o) (hwa : ¬ wr a) (hc : ∃ o, st.get? cStatics = some o) (hwc : ¬ wr cStatics)
    (hQ : ∀ x t s', us[us.length - 1 - m]? = some x → Mv st wr fr g s s' → zz m s'.heap → ((m = 0 → full) → GAt prog w A.in1 a g st wr fr mine us full zz m s') → Q (some (.int x t)) s') :
    wpAny (model prog w) A (pyNext (.ref a)) Q E s := by
  unfold pyNext
  exact wpAny_bind (wpAny_attempt (gat_item hh hroom G ha hwa hc hwc fun x t s' h1 h2 hz h3 => wpAny_pure (hQ x t s' h1 h2 hz h3)))

theorem pyNext_end {Q : Option Value → Shared → Prop} (hf : full) (hh : A.handled = none) (hroom : A.depth < recursionLimit) (G : GAt prog w A.in1 a g st wr fr mine us full zz 0 s)
    (hQ : ∀ s', Mv st wr fr g s s' → Q none s') : wpAny (model prog w) A (pyNext (.ref a)) Q E s := by
  unfold pyNext
  refine wpAny_bind (wpAny_attempt (gat_end hf hh hroom G fun s' e hm he => ?_))
  exact wpAny_bind (wpAny_isInstance (T := "StopIteration") (b := true) he isSubtype_stop (wpAny_pure (hQ s' hm)))

/-- a state in which only the consumer's own objects were changed -/
theorem GAt.frame {m : Nat} (G : GAt prog w A a g st wr fr mine us full zz m s) {h : Heap} {tk : Nat} (hk : Fw mine s.heap h) (ha : ¬ mine a) (hc : ¬ mine cStatics) :
    GAt prog w A a g st wr fr mine us full zz m { s with heap := h, toks := tk } := by
  obtain ⟨⟨o, nm, qn, ho, r⟩, ⟨mc, hns, hnn⟩, gs, hgs, hgo⟩ := G
  exact ⟨⟨o, nm, qn, hk.1 _ _ ha ho, r⟩, ⟨mc, hns.at' fun o e => hk.1 _ o hc e, hnn⟩, gs, hgs, fun s'' hs'' => hgo s'' (hk.trans hs'')⟩

theorem drain_loop {R : Result → Shared → Prop} {S : Addr} {res : Value} (hh : A.handled = none) (hroom : A.depth < recursionLimit) (hus : us.length ≤ sizeLine)
    (ha : ∃ o, st.get? a = some o) (hwa : ¬ wr a) (hc : ∃ o, st.get? cStatics = some o) (hwc : ¬ wr cStatics) (hS : ∃ o, st.get? S = some o) (hwS : ¬ wr S) (haS : a ≠ S) (hcS : cStatics ≠ S) :
    ∀ (k : Nat) (s : Shared) (acc : Array Value) (c : Nat), GAt prog w A.in1.in1 a g st wr fr (· = S) us True zz k s → k ≤ us.length → IntsAre acc.toList (us.take (us.length - k)) →
      s.heap.get? S = some { cls := .type "list", dict := none, data := .seq acc c, slots := #[] } →
      (∀ s' acc' c', Mv st (fun b => wr b ∨ b = S) (fun b => fr b ∧ b ≠ S) g s s' → s'.heap.get? S = some { cls := .type "list", dict := none, data := .seq acc' c', slots := #[] } → IntsAre acc'.toList us → R (.ok (.ret res)) s') →
      codeAny (model prog w) A (.builtin "list.extend.loop" ⟨[.ref S, .ref a, res], []⟩) R s := by
  intro k
  induction k with
  | zero =>
    intro s acc c G _ hI hg hR
    refine codeAny_builtin F.entry_extend_loop ?_
    rw [Around.under_plainId F.plain_extend_loop _]
    show wpAny _ A.in1 (pyNext (.ref a) >>= _) _ _ s
    refine wpAny_bind (pyNext_end trivial hh hroom G fun s' hm => ?_)
    refine wpAny_pure (hR s' acc c (hm.weaken (fun b h => .inl h) fun b h => h.1) (hm.keep S _ hS hwS hg) ?_)
    rwa [Nat.sub_zero, List.take_length] at hI
  | succ k ih =>
    intro s acc c G hk hI hg hR
    refine codeAny_builtin F.entry_extend_loop ?_
    rw [Around.under_plainId F.plain_extend_loop _]
    show wpAny _ A.in1 (pyNext (.ref a) >>= _) _ _ s
    refine wpAny_bind (pyNext_item hh hroom G ha hwa hc hwc fun x t s' hx hm _ hG => ?_)
    have hS' := hm.keep S _ hS hwS hg
    have hlen : acc.size = us.length - (k + 1) := by
      have := hI.length
      rw [Array.length_toList, List.length_take] at this
      omega
    have oth : ∀ b o, ¬ (b = S) → s'.heap.get? b = some o → (s'.heap.update S (Obj.mapSeq (·.push (.int x t)))).get? b = some o := fun b o hb e => (Heap.get?_update_other _ _ (fun q : S = b => hb q.symm)).trans e
    have nsk : ∀ b m, b ≠ S → s'.heap.Ns b m → (s'.heap.update S (Obj.mapSeq (·.push (.int x t)))).Ns b m := fun b m hb e => e.at' fun o q => oth b o hb q
    show wpAny _ A.in1 (updateSeq S (·.push (.int x t)) >>= _) _ _ _
    refine wpAny_bind ?_
    refine wpAny_updateSeq hS' rfl (wpAny_pure ⟨plainId_quiet F.plain_extend_loop _, ih _ (acc.push (.int x t)) _ ((hG fun _ => trivial).frame (tk := s'.toks) (.at oth hS' rfl (Heap.get?_update_self _ hS' rfl)) haS hcS) (by omega) ?_ (Heap.get?_update_self _ hS' rfl) fun s'' acc' c' hm'' hS'' hI'' => ?_⟩)
      (by omega) (by show (acc.push _).size ≤ sizeLine + 1; rw [Array.size_push]; omega)
    · rw [Array.toList_push]
      have e : us.take (us.length - k) = us.take (us.length - (k + 1)) ++ [x] := by
        have : us.length - k = (us.length - (k + 1)) + 1 := by omega
        rw [this, List.take_add_one]
        have hx' : us[us.length - (k + 1)]? = some x := by rw [← hx]; congr 1; omega
        rw [hx']; rfl
      rw [e]
      exact hI.append (.cons _ _ .nil)
    · refine hR s'' acc' c' ?_ hS'' hI''
      refine (hm.weaken (fun b h => .inl h) fun b h => h.1).trans (Mv.trans (s₂ := { s' with heap := s'.heap.update S (Obj.mapSeq (·.push (.int x t))) }) ⟨fun b o _ hb e => oth b o (fun q => hb (.inr q)) e, fun b m hb e => nsk b m hb.2 e, .inl rfl, rfl, rfl⟩ hm'')

theorem list_gen {Q : Value → Shared → Prop} (hh : A.handled = none) (hroom : A.depth < recursionLimit) (hus : us.length ≤ sizeLine) (hwr : ∀ b, wr b → b < s.heap.objs.size) (hfr : ∀ b, fr b → b < s.heap.objs.size)
    (hg : s.heap.IsGen a g) (hwa : ¬ wr a) (hl : s.heap.NoLimit) (hwc : ¬ wr cStatics)
    (G : ∀ (S : Addr) (H : Heap) (oS : Obj), s.heap.get? S = none → (∀ b o, s.heap.get? b = some o → H.get? b = some o) → H.get? S = some oS →
      ∀ s₂ : Shared, s₂.gens = s.gens → Fw (· = S) H s₂.heap → GAt prog w A.in1.in1.in1 a g H wr fr (· = S) us True zz us.length s₂)
    (hQ : ∀ s' ys, Mv s.heap wr fr g s s' → s'.heap.IsList s.heap.objs.size ys.toArray → s'.heap.PlainList s.heap.objs.size ys.toArray → IntsAre ys us → Q (.ref s.heap.objs.size) s') :
    wpAny (model prog w) A (call (.type "list") [.ref a]) Q E s := by
  refine callType_codes (Q₁ := fun obj s₁ => obj = .ref s.heap.objs.size ∧ s₁ = { s with heap := s.heap.push { cls := .type "list", data := .seq #[] } }) F.called_list (F.typeCall_list_1 _) F.entry_list_init
    (code_list_new _ ⟨rfl, rfl⟩) fun obj s₁ h₁ => ?_
  obtain ⟨rfl, rfl⟩ := h₁
  have hS : (s.heap.push { cls := .type "list", data := .seq #[] }).get? s.heap.objs.size = some { cls := .type "list", data := .seq #[] } := Heap.get?_push_size _ rfl
  have hSn : s.heap.get? s.heap.objs.size = none := Heap.get?_none_of_le (Nat.le_refl _)
  generalize hSz : s.heap.objs.size = S at *
  generalize hH : s.heap.push { cls := .type "list", data := .seq #[] } = H at hS ⊢
  have up : ∀ b o, s.heap.get? b = some o → H.get? b = some o := fun b o e => hH ▸ Heap.get?_push_of_some _ e
  have haS : a ≠ S := by obtain ⟨o, _, _, ho, _⟩ := hg; rw [← hSz]; exact Nat.ne_of_lt (Heap.lt_size ho)
  have hcS : cStatics ≠ S := by obtain ⟨mc, hns, _⟩ := hl; rw [← hSz]; exact Nat.ne_of_lt hns.lt
  have haH : ∃ o, H.get? a = some o := by obtain ⟨o, _, _, ho, _⟩ := hg; exact ⟨o, up _ _ ho⟩
  have hcH : ∃ o, H.get? cStatics = some o := by obtain ⟨mc, ⟨o, _, _, ho, _⟩, _⟩ := hl; exact ⟨o, up _ _ ho⟩
  have hwS : ¬ wr S := fun q => by have := hwr _ q; exact Nat.lt_irrefl _ this
  have hgH : H.IsGen a g := hg.keeps up
  refine ⟨⟨_, hS, rfl⟩, F.args_list_init_2 _ _, ?_⟩
  show wpAny _ A.in1.in1 (do let old ← Builtin.List.listItems (.ref S); Builtin.List.listUpdate (.ref S) (fun _ => #[]); letGo old.toList.reverse; Builtin.List.listExtendWith (.ref S) (.ref a) .none) _ _ _
  refine wpAny_bind ?_
  unfold Builtin.List.listItems
  refine wpAny_bind (wpAny_seqItems hS rfl (wpAny_pure ?_))
  show wpAny _ A.in1.in1 (updateSeq S (fun _ => #[]) >>= fun _ => letGo (#[] : Array Value).toList.reverse >>= fun _ => Builtin.List.listExtendWith (.ref S) (.ref a) .none) _ _ _
  refine wpAny_bind (wpAny_updateSeq hS rfl ?_)
  have hS₂ := Heap.get?_update_self (Obj.mapSeq (fun _ => (#[] : Array Value))) hS rfl
  have oth₂ : ∀ b o, ¬ (b = S) → H.get? b = some o → (H.update S (Obj.mapSeq (fun _ => (#[] : Array Value)))).get? b = some o :=
    fun b o hb e => (Heap.get?_update_other _ _ (fun q : S = b => hb q.symm)).trans e
  generalize hH2 : H.update S (Obj.mapSeq (fun _ => (#[] : Array Value))) = H2 at hS₂ oth₂ ⊢
  refine wpAny_bind (wpAny_letGo ?_)
  unfold Builtin.List.listExtendWith
  have hg₂ : H2.IsGen a g := by obtain ⟨o, nm, qn, ho, r⟩ := hgH; exact ⟨o, nm, qn, oth₂ _ _ haS ho, r⟩
  have hT : (⟨H2, s.gens, s.drawn, s.toks, s.os⟩ : Shared).TypeIs (.ref a) "generator" := hg₂.typeIs
  refine wpAny_bind (wpAny_typeOf hT ?_)
  have h1 : Builtin.List.listSameRef (.ref S) (.ref a) = false := by simp [Builtin.List.listSameRef, Ne.symm haS]
  have h2 : (Value.type "generator" == Value.type "list") = false := by decide
  have h3 : (Value.type "generator" == Value.type "tuple") = false := by decide
  simp only [h1, h2, h3, Bool.or_false, Bool.false_eq_true, if_false]
  refine wpAny_bind (wpAny_pyIter_gen hg₂ ?_)
  refine wpAny_bind (wpAny_holding ?_)
  unfold Builtin.List.listLengthHint
  refine wpAny_bind (wpAny_specialOf hT F.gen_no_len ?_)
  show wpAny _ A.in1.in1 (specialOf (Value.ref a) (Str.ofString "__length_hint__") >>= _) _ _ _
  refine wpAny_bind (wpAny_specialOf hT F.gen_no_hint ?_)
  refine wpAny_pure ?_
  show wpAny _ A.in1.in1 (rule "list.extend.makes-room" >>= fun _ => Builtin.List.listTouch (.ref S) >>= fun _ =>
    again (.builtin "list.extend.loop" ⟨[.ref S, .ref a, .none], []⟩)) _ _ _
  refine wpAny_bind (wpAny_rule ?_)
  refine wpAny_bind ?_
  show wpAny _ A.in1.in1 (updateSeq S (·.push .none) >>= fun _ => updateSeq S (·.pop)) _ _ _
  refine wpAny_bind (wpAny_updateSeq hS₂ rfl ?_)
  have hS₃ := Heap.get?_update_self (Obj.mapSeq (·.push Value.none)) hS₂ rfl
  refine wpAny_updateSeq (hz := by seq_fits) hS₃ rfl ?_
  have hS₄ := Heap.get?_update_self (Obj.mapSeq (·.pop)) hS₃ rfl
  have oth₄ : ∀ b o, ¬ (b = S) → H.get? b = some o → ((H2.update S (Obj.mapSeq (·.push Value.none))).update S (Obj.mapSeq (·.pop))).get? b = some o :=
    fun b o hb e => (Heap.get?_update_other _ _ (fun q : S = b => hb q.symm)).trans ((Heap.get?_update_other _ _ (fun q : S = b => hb q.symm)).trans (oth₂ b o hb e))
  generalize hH4 : (H2.update S (Obj.mapSeq (·.push Value.none))).update S (Obj.mapSeq (·.pop)) = H4 at hS₄ oth₄ ⊢
  refine wpAny_pure ⟨plainId_quiet F.plain_extend_loop _, drain_loop (A := A.in1) (us := us) (st := H) (wr := wr) (fr := fr) hh hroom hus haH hwa hcH hwc ⟨_, hS⟩ hwS haS hcS us.length ⟨H4, s.gens, s.drawn, s.toks, s.os⟩ _ _
    (G S H _ hSn up hS ⟨H4, s.gens, s.drawn, s.toks, s.os⟩ rfl (.at oth₄ hS rfl hS₄)) (Nat.le_refl _) ?_ hS₄ fun s' acc' c' hm hS' hI => ?_⟩
  · rw [Nat.sub_self, List.take_zero]; exact .nil
  · refine ⟨rfl, hQ s' acc'.toList ⟨fun b o hb hw e => ?_, fun b m hb e => ?_, hm.gens, hm.drawn, hm.os⟩ ⟨_, hS', rfl, c', by simp⟩ ⟨c', by simpa using hS'⟩ hI⟩
    · have hbS : b ≠ S := by rw [← hSz]; exact Nat.ne_of_lt (Heap.lt_size e)
      exact hm.keep b o ⟨o, up _ _ e⟩ (fun q => q.elim hw hbS) (oth₄ b o hbS (up _ _ e))
    · have hbS : b ≠ S := fun q => by have := hfr _ hb; rw [q] at this; exact Nat.lt_irrefl _ this
      exact hm.frm b m ⟨hb, hbS⟩ (e.at' fun o q => oth₄ b o hbS (up _ _ q))
end
end
end Mine

namespace Mine
section
set_option maxRecDepth 100000
open PySem.Builtin

/-- the parts of the given program -/
def topAt (i : Nat) : Stmt := PySem.Challenge.pw_kl0468_01.main.body.getD i (.Pass ⟨0, 0, 0, 0⟩)
def bodyOf : Stmt → List Stmt
  | .FunctionDef _ _ b _ _ _ _ _ _ _ => b
  | .ClassDef _ _ _ b _ _ _ _ _ _ _ => b
  | _ => []
def scopeOf : Stmt → Scope
  | .FunctionDef _ _ _ _ _ _ sc _ _ _ => sc
  | _ => default
def paramsOf : Stmt → Arguments
  | .FunctionDef _ a _ _ _ _ _ _ _ _ => a
  | _ => default
def ueBody : List Stmt := bodyOf (topAt 3)
def ueScope : Scope := scopeOf (topAt 3)
def ueParams : Arguments := paramsOf (topAt 3)
def lfBody : List Stmt := bodyOf (topAt 5)
def lfScope : Scope := scopeOf (topAt 5)
def lfParams : Arguments := paramsOf (topAt 5)
def ffAt (i : Nat) : Stmt := (bodyOf (topAt 1)).getD i (.Pass ⟨0, 0, 0, 0⟩)

abbrev ueEnv (C a : Addr) (cd : Value) : Env := envOf "unique_everseen" ueScope C a cd

/-- what the generator keeps, as a list of ints -/
def uniq (f : Int → Int) : (Int → Bool) → List Int → List Int
  | _, [] => []
  | S, x :: r => if S (f x) then uniq f S r else x :: uniq f (fun k => S k || decide (k = f x)) r

section
variable {prog : Program} {w : World} {A : Around} {E : Value → Shared → Prop} {s : Shared} {C a : Addr} {cd : Value} {m : Str → Option Value}

theorem ue_ld {x : Str} {pos : Pos} {v : Value} {Q : Value → Shared → Prop} (hn : s.heap.Ns C m) (hv : m x = some v) (h : Q v s)
    (hl : (ueEnv C a cd).kindOf x = some .local := by rfl) (hd : (x == ("__debug__" : Str)) = false := by decide) :
    wpAny (model prog w) A (eval (.Name x pos) (ueEnv C a cd)) Q E s := wpAny_Name (wpAny_loadName_local rfl hl hn hv h) hd

theorem ue_st {x : Str} {v : Value} {Q : Unit → Shared → Prop} (hn : s.heap.Ns C m)
    (h : ∀ h', h'.Ns C (fun y => if y = x then some v else m y) → Heap.SameBut C s.heap h' → Q () { s with heap := h', toks := s.toks + 1 })
    (hl : (ueEnv C a cd).kindOf x = some .local := by rfl) : wpAny (model prog w) A (storeName (ueEnv C a cd) x v) Q E s :=
  wpAny_storeName_local hl hn h rfl
end

structure WayAt (prog : Program) (w : World) (hb : Heap) (f : Int → Int) (wf : Addr) : Prop where
  fn : ∃ o fd, hb.get? wf = some o ∧ o.data = .func fd
  call : ∀ (A : Around) (E : Value → Shared → Prop) (Q : Value → Shared → Prop) (v : Int) (t : Tok) (s : Shared), A.depth + 3 < recursionLimit → hb.StaysIn s.heap → 0 ≤ v → v < 12 →
    (∀ t' h' tk, (∀ b o, s.heap.get? b = some o → h'.get? b = some o) → Q (.int (f v) t') { s with heap := h', toks := tk }) → wpAny (model prog w) A (call (.ref wf) [.int v t]) Q E s

/-- the generator between its turns, by a key -/
structure KInv (prog : Program) (w : World) (hb st : Heap) (wr mine : Addr → Prop) (C r wf It Se Mt : Addr) (i : Nat) (S : Int → Bool) (n : Nat) (m : Str → Option Value) (h : Heap) : Prop where
  stay : hb.StaysIn h
  ns : h.Ns C m
  iter : h.IsListIter It r i
  set : h.SetOf (intKind prog w) Se S n
  meth : h.get? Mt = some (boundB "set.add" (.ref Se))
  key : m "key" = some (.ref wf)
  seen : m "seen" = some (.ref Se)
  add : m "seen_add" = some (.ref Mt)

/-- the addresses that the generator owns, once for all -/
structure KOwn (hb st : Heap) (wr fr mine : Addr → Prop) (C It Se Mt : Addr) : Prop where
  bC : hb.get? C = none
  bI : hb.get? It = none
  bS : hb.get? Se = none
  wC : wr C
  wI : wr It ∨ st.get? It = none
  sS : st.get? Se = none
  mC : ¬ mine C
  mI : ¬ mine It
  mS : ¬ mine Se
  mM : ¬ mine Mt
  mb : ∀ b, mine b → hb.get? b = none
  fC : ¬ fr C
  fI : ¬ fr It
  fS : ¬ fr Se
  CI : C ≠ It
  CS : C ≠ Se
  CM : C ≠ Mt
  IS : It ≠ Se
  IM : It ≠ Mt
  SM : Se ≠ Mt

section
variable {prog : Program} {w : World} {hb st : Heap} {wr fr mine : Addr → Prop} {C r wf It Se Mt : Addr} {i n : Nat} {S : Int → Bool} {m : Str → Option Value} {h h' : Heap}

theorem KInv.fw (X : KInv prog w hb st wr mine C r wf It Se Mt i S n m h) (O : KOwn hb st wr fr mine C It Se Mt) (k : Fw mine h h') : KInv prog w hb st wr mine C r wf It Se Mt i S n m h' where
  stay := fun b o e => k.1 b o (fun q => by rw [O.mb b q] at e; cases e) (X.stay b o e)
  ns := X.ns.at' fun o e => k.1 _ o O.mC e
  iter := X.iter.at fun o e => k.1 _ o O.mI e
  set := by obtain ⟨o, es, ep, t, ho, z⟩ := X.set; exact ⟨o, es, ep, t, k.1 _ _ O.mS ho, z⟩
  meth := k.1 _ _ O.mM X.meth
  key := X.key
  seen := X.seen
  add := X.add
theorem KInv.ext (X : KInv prog w hb st wr mine C r wf It Se Mt i S n m h) (k : ∀ b o, h.get? b = some o → h'.get? b = some o) : KInv prog w hb st wr mine C r wf It Se Mt i S n m h' where
  stay := fun b o e => k b o (X.stay b o e)
  ns := X.ns.keeps k
  iter := X.iter.at fun o e => k _ o e
  set := by obtain ⟨o, es, ep, t, ho, z⟩ := X.set; exact ⟨o, es, ep, t, k _ _ ho, z⟩
  meth := k _ _ X.meth
  key := X.key
  seen := X.seen
  add := X.add
theorem KInv.store (X : KInv prog w hb st wr mine C r wf It Se Mt i S n m h) (O : KOwn hb st wr fr mine C It Se Mt) {x : Str} {v : Value} (hx : x ≠ "key" ∧ x ≠ "seen" ∧ x ≠ "seen_add")
    (hn : h'.Ns C (fun y => if y = x then some v else m y)) (k : Heap.SameBut C h h') : KInv prog w hb st wr mine C r wf It Se Mt i S n (fun y => if y = x then some v else m y) h' where
  stay := fun b o e => k.extBut b o (fun q => by rw [q, O.bC] at e; cases e) (X.stay b o e)
  ns := hn
  iter := X.iter.extBut k.extBut O.CI.symm
  set := by obtain ⟨o, es, ep, t, ho, z⟩ := X.set; exact ⟨o, es, ep, t, k.extBut _ _ O.CS.symm ho, z⟩
  meth := k.extBut _ _ O.CM.symm X.meth
  key := by rw [if_neg (Ne.symm hx.1)]; exact X.key
  seen := by rw [if_neg (Ne.symm hx.2.1)]; exact X.seen
  add := by rw [if_neg (Ne.symm hx.2.2)]; exact X.add
theorem KInv.next (X : KInv prog w hb st wr mine C r wf It Se Mt i S n m h) (O : KOwn hb st wr fr mine C It Se Mt) {j : Nat} (hi : h'.IsListIter It r j) (k : Heap.SameBut It h h') : KInv prog w hb st wr mine C r wf It Se Mt j S n m h' where
  stay := fun b o e => k.extBut b o (fun q => by rw [q, O.bI] at e; cases e) (X.stay b o e)
  ns := X.ns.sameBut k O.CI
  iter := hi
  set := by obtain ⟨o, es, ep, t, ho, z⟩ := X.set; exact ⟨o, es, ep, t, k.extBut _ _ O.IS.symm ho, z⟩
  meth := k.extBut _ _ O.IM.symm X.meth
  key := X.key
  seen := X.seen
  add := X.add
theorem KInv.grow (X : KInv prog w hb st wr mine C r wf It Se Mt i S n m h) (O : KOwn hb st wr fr mine C It Se Mt) {S' : Int → Bool} {n' : Nat} (hs : h'.SetOf (intKind prog w) Se S' n') (k : Heap.SameBut Se h h') : KInv prog w hb st wr mine C r wf It Se Mt i S' n' m h' where
  stay := fun b o e => k.extBut b o (fun q => by rw [q, O.bS] at e; cases e) (X.stay b o e)
  ns := X.ns.sameBut k O.CS
  iter := X.iter.extBut k.extBut O.IS
  set := hs
  meth := k.extBut _ _ O.SM.symm X.meth
  key := X.key
  seen := X.seen
  add := X.add
end
end
end Mine

namespace Mine
section
set_option maxRecDepth 100000
open PySem.Builtin

def ueIf : Stmt := ueBody.getD 2 (.Pass ⟨0, 0, 0, 0⟩)
def keyFor : Stmt := match ueIf with | .If _ _ (f :: _) _ => f | _ => .Pass ⟨0, 0, 0, 0⟩
def noneFor : Stmt := match ueIf with | .If _ (f :: _) _ _ => f | _ => .Pass ⟨0, 0, 0, 0⟩
def forBody : Stmt → List Stmt
  | .For _ _ b _ _ => b
  | _ => []
def forPx : Stmt → Pos
  | .For (.Name _ p) _ _ _ _ => p
  | _ => ⟨0, 0, 0, 0⟩
abbrev keyCode (It C a : Addr) (cd : Value) : Code := .forLoop (.Name "element" (forPx keyFor)) (.ref It) (forBody keyFor) [] (ueEnv C a cd)

section
variable {prog : Program} {w : World} {A : Around} {hb st : Heap} {wr fr mine : Addr → Prop} {C r wf It Se Mt a : Addr} {cd : Value} {f : Int → Int} {us ns : List Int} {full : Prop} {vs : List Value}

theorem sn_but {s : Shared} {b : Addr} {h : Heap} {tk : Nat} (hw : wr b ∨ st.get? b = none) (hf : ¬ fr b) (he : Heap.ExtBut b s.heap h) : Sn st wr fr s { s with heap := h, toks := tk } :=
  ⟨⟨h, _, rfl⟩, fun c o hc hwc e => he c o (fun q => by
    rcases hw with x | x
    · exact hwc (q ▸ x)
    · obtain ⟨o', e'⟩ := hc
      rw [q, x] at e'; cases e') e, fun c m' hfc e => e.at' fun o q => he c o (fun z => hf (z ▸ hfc)) q⟩

theorem over_depth {A : Around} {t : Expr} {it : Value} {b o : List Stmt} {env env' : Env} {k : Result → Sem Fin} {h : Option Value} {g : Bool} {l : List Value} {body : List Stmt} {p : Pos} {kp : List Value} :
    (A.over (.forLoop t it b o env) [.ret k h g l (.func body env') p kp]).depth = A.depth + 1 := by
  rfl

theorem key_turn {k : Result → Sem Fin} {gd0 : Bool} {lv0 : List Value} {b₁ : List Stmt} {e₁ : Env} {p₁ : Pos} {fs : List Frame}
    (hfs : fs = [.ret k none gd0 lv0 (.func b₁ e₁) p₁ []]) (hg0 : gd0 = false) (hk : k (.ok .next) = leafOf (.ok (.ret .none)))
    (hh : A.handled = none) (hroom₀ : A.depth + 5 < recursionLimit)
    (O : KOwn hb st wr fr mine C It Se Mt) (W : WayAt prog w hb f wf) (hr : hb.IsList r vs.toArray) (hI : IntsAre vs ns) (hns : ∀ x ∈ ns, 0 ≤ x ∧ x < 12) (hlen : ns.length ≤ 60) :
    ∀ (xs : List Int) (i : Nat) (S : Int → Bool) (n N : Nat) (s₀ s : Shared) (m : Str → Option Value), ns.drop i = xs → i ≤ ns.length → n ≤ i → KInv prog w hb st wr mine C r wf It Se Mt i S n m s.heap → Sn st wr fr s₀ s →
      N ≤ (uniq f S xs).length → (full → N = (uniq f S xs).length) → (N = 0 → full) → N ≤ us.length → us.drop (us.length - N) = (uniq f S xs).take N →
      Seg (model prog w) A (Rp st wr fr) (Yp st wr fr mine us full tz) N s₀ (keyCode It C a cd) ((model prog w).den (keyCode It C a cd)) fs s := by
  intro xs
  have hh' : (A.over (keyCode It C a cd) fs).handled = none := by rw [hfs]; exact hh
  have hroom : (A.over (keyCode It C a cd) fs).depth + 3 < recursionLimit := by rw [hfs, over_depth]; omega
  induction xs with
  | nil =>
    intro i S n N s₀ s m hd hi hn X hs hN _ hz _ _
    obtain rfl : N = 0 := by simpa [uniq] using hN
    have hiN : ns.length ≤ i := by
      have := congrArg List.length hd
      rw [List.length_drop, List.length_nil] at this
      omega
    have hl : s.heap.IsList r vs.toArray := hr.at fun o e => X.stay _ o e
    refine seg_forLoop (wpAny_pyNext_list_end hh' X.iter hl ?_ fun h' he => ?_)
    · rw [List.getElem?_toArray]
      exact List.getElem?_eq_none (by rw [hI.length]; exact hiN)
    · subst hfs
      refine seg_block_nil ?_
      rw [hk]
      exact seg_end _ ⟨rfl, rfl, hs.trans (sn_but O.wI O.fI he)⟩
  | cons x xs ih =>
    intro i S n N s₀ s m hd hi hn X hs hN hfN hz hNu hus
    have hlt : i < ns.length := by
      rcases Nat.lt_or_ge i ns.length with h | h
      · exact h
      · rw [List.drop_eq_nil_of_le h] at hd; cases hd
    have hxi : ns[i]? = some x := by rw [← List.head?_drop, hd]; rfl
    have hd' : ns.drop (i + 1) = xs := by rw [← List.drop_drop, hd]; rfl
    obtain ⟨tx, hvx⟩ := hI.get i x hxi
    have hl : s.heap.IsList r vs.toArray := hr.at fun o e => X.stay _ o e
    have hx12 := hns x (List.mem_of_getElem? hxi)
    refine seg_forLoop (wpAny_pyNext_list_item X.iter hl (by rw [List.getElem?_toArray]; exact hvx) fun h₁ hi₁ hs₁ => ?_)
    have X₁ := X.next O hi₁ hs₁
    have hs₁' : Sn st wr fr s₀ { s with heap := h₁ } := hs.trans (sn_but O.wI O.fI hs₁.extBut)
    refine ue_st X₁.ns fun h₂ hn₂ hs₂ => ?_
    have X₂ := X₁.store (x := "element") O (by decide) hn₂ hs₂
    have hs₂' : Sn st wr fr s₀ { s with heap := h₂, toks := s.toks + 1 } := hs₁'.trans (sn_but (s := { s with heap := h₁ }) (.inl O.wC) O.fC hs₂.extBut)
    refine seg_execs_cons (seg_plain ?_)
    refine wpAny_Assign_Name (Call_ (ue_ld hn₂ (v := .ref wf) (by show (if _ then _ else _) = _; rw [if_neg (by decide)]; exact X₁.key) ?_))
    obtain ⟨o, fd, ho, hdat⟩ := W.fn
    refine callWith_def hdat (args_cons (ue_ld hn₂ (v := .int x tx) (by show (if _ then _ else _) = _; rw [if_pos rfl]) (args_nil ⟨X₂.stay _ _ ho, ?_⟩)))
    refine W.call _ _ _ x tx _ hroom X₂.stay hx12.1 hx12.2 fun tk₃ h₃ t₃ hk₃ => ?_
    have X₃ := X₂.ext hk₃
    have hs₃' := hs₂'.ext (tk := t₃) hk₃
    refine ue_st X₃.ns fun h₄ hn₄ hs₄ => ?_
    have X₄ := X₃.store (x := "k") O (by decide) hn₄ hs₄
    have hs₄' := hs₃'.trans (sn_but (tk := t₃ + 1) (.inl O.wC) O.fC hs₄.extBut)
    refine seg_execs_cons (seg_If ?_)
    refine wpAny_isTrue_Compare1 (ue_ld hn₄ (v := .int (f x) tk₃) (by show (if _ then _ else _) = _; rw [if_pos rfl]) (ue_ld hn₄ (v := .ref Se) X₄.seen ?_))
    refine wpAny_notInSet_of (knd := intKind prog w) (k := f x) (intKind_is _ _ _ _) rfl X₄.set (wpAny_truthy_bool ?_)
    have X₅ : KInv prog w hb st wr mine C r wf It Se Mt (i + 1) S n _ h₄ := X₄
    cases hS : S (f x) with
    | true =>
      have hu : uniq f S (x :: xs) = uniq f S xs := by simp only [uniq, hS, if_true]
      rw [hu] at hN hfN hus
      show Seg _ A _ _ N s₀ _ ((execs [] (ueEnv C a cd)).wrap _ _ _ _) fs _
      refine seg_execs_nil ?_
      refine seg_execs_nil ?_
      refine seg_again rfl ?_
      exact ih (i + 1) S n N s₀ _ _ hd' hlt (Nat.le_succ_of_le hn) X₅ (hs₄'.ext fun b o e => e) hN hfN hz hNu hus
    | false =>
      have hu : uniq f S (x :: xs) = x :: uniq f (fun k => S k || decide (k = f x)) xs := by simp only [uniq, hS, Bool.false_eq_true, if_false]
      rw [hu] at hN hfN hus
      show Seg _ A _ _ N s₀ _ ((execs _ (ueEnv C a cd)).wrap _ _ _ _) fs _
      cases N with
      | zero =>
        have := hfN (hz rfl)
        rw [List.length_cons] at this
        exact absurd this (by omega)
      | succ N =>
      refine seg_execs_cons (seg_plain ?_)
      refine wpAny_Expr (Call_ (ue_ld hn₄ (v := .ref Mt) X₄.add (callWith_bound1 (id := "set.add") (self := .ref Se) (ue_ld hn₄ (v := .int (f x) tk₃) (by show (if _ then _ else _) = _; rw [if_pos rfl]) ⟨X₄.meth, ?_⟩))))
      refine call_bound_add X₄.meth X₄.set (by have : scanBound = 4096 := rfl; omega) fun h₆ hs₆ hS₆ => ?_
      have X₆ := X₅.grow O hS₆ hs₆
      rw [hS] at X₆
      have hs₆' := hs₄'.trans (sn_but (tk := t₃ + 1 + 1 + 1) (.inr O.sS) O.fS hs₆.extBut)
      refine seg_execs_cons (seg_Expr_Yield (by rw [hfs]; rfl) rfl (by rw [hfs]; simp [Frame.guarded, hg0]) ?_)
      refine ue_ld X₆.ns (v := .int x tx) (by show (if _ then _ else if _ then _ else _) = _; rw [if_neg (by decide), if_pos rfl]) fun kap hkap => ?_
      rw [List.take_succ_cons] at hus
      refine ⟨⟨x, tx, by rw [show us.length - 1 - N = us.length - (N + 1) by omega, ← List.head?_drop, hus]; rfl, rfl, trivial⟩, hs₆', fun hf0 s'' hfw => hkap .none s'' ?_⟩
      show Seg _ A _ _ N s'' _ ((execs [] (ueEnv C a cd)).wrap _ _ _ _) fs s''
      refine seg_execs_nil ?_
      refine seg_execs_nil ?_
      refine seg_again rfl ?_
      refine ih (i + 1) _ (n + 1) N s'' s'' _ hd' hlt (Nat.succ_le_succ hn) (X₆.fw O hfw) (Sn.refl _ _ _ _) (by rw [List.length_cons] at hN; omega) (fun q => by have := hfN q; rw [List.length_cons] at this; omega) hf0 (by omega) ?_
      rw [show us.length - N = us.length - (N + 1) + 1 by omega, ← List.drop_drop, hus]; rfl
end
end
end Mine

namespace Mine
section
set_option maxRecDepth 100000
open PySem.Builtin

structure GB (hb : Heap) (mg mb : Str → Option Value) : Prop where
  g : hb.Ns mainGlobals mg
  b : hb.Ns builtinsNs mb
  builtins : ∀ x : Str, x ≠ "__name__" → mb x = bootBuiltins x
  miss : ∀ x ∈ (["set", "len", "list", "enumerate", "iter", "next", "bool"] : List Str), mg x = none
  ue : mg "unique_everseen" = some (.ref 59)
  lf : mg "_law_firsts" = some (.ref 64)
  ff : mg "filterfalse" = some (.ref 47)
  nolimit : hb.NoLimit

section
variable {prog : Program} {w : World} {A : Around} {E : Value → Shared → Prop} {s : Shared} {hb : Heap} {mg mb : Str → Option Value} {env : Env}

theorem gb_builtin {x : Str} {pos : Pos} {v : Value} {Q : Value → Shared → Prop} (G : GB hb mg mb) (st : hb.StaysIn s.heap) (hx : x ∈ (["set", "len", "list", "enumerate", "iter", "next", "bool"] : List Str)) (hv : bootBuiltins x = some v) (h : Q v s)
    (hk : env.scope.kind = .function) (hkx : env.kindOf x = some .globalImplicit) (hg : env.globals = mainGlobals) (hbi : env.builtins = builtinsNs) (hn : x ≠ "__name__" := by decide) (hd : (x == ("__debug__" : Str)) = false := by decide) :
    wpAny (model prog w) A (eval (.Name x pos) env) Q E s := by
  refine PySem.Calls.Name_function_global hk hkx (PySem.Calls.loadGlobal_builtin (mg := mg) (mb := mb) ?_ (G.miss x hx) ?_ ((G.builtins x hn).trans hv) h) hd
  · rw [hg]; exact G.g.keeps st
  · rw [hbi]; exact G.b.keeps st
theorem gb_global {x : Str} {pos : Pos} {v : Value} {Q : Value → Shared → Prop} (G : GB hb mg mb) (st : hb.StaysIn s.heap) (hv : mg x = some v) (h : Q v s)
    (hk : env.scope.kind = .function) (hkx : env.kindOf x = some .globalImplicit) (hg : env.globals = mainGlobals) (hd : (x == ("__debug__" : Str)) = false := by decide) :
    wpAny (model prog w) A (eval (.Name x pos) env) Q E s := by
  refine PySem.Calls.Name_function_global hk hkx (PySem.Calls.loadGlobal_global (mg := mg) ?_ hv h) hd
  rw [hg]; exact G.g.keeps st
end

/-- the heap at the generator's first waking, and who owns what in it -/
structure KAt (hb st : Heap) (wr fr mine : Addr → Prop) (C : Addr) (h : Heap) : Prop where
  stay : hb.StaysIn h
  bC : hb.get? C = none
  wC : wr C
  mC : ¬ mine C
  fC : ¬ fr C
  mb : ∀ b, mine b → hb.get? b = none
  mh : ∀ b, mine b → ∃ o, h.get? b = some o
  fh : ∀ b, fr b → ∃ o, h.get? b = some o
  sh : ∀ b, (∃ o, st.get? b = some o) → ∃ o, h.get? b = some o

section
variable {prog : Program} {w : World} {A : Around} {hb st : Heap} {mg mb : Str → Option Value} {wr fr mine : Addr → Prop} {C r wf a : Addr} {cd : Value} {f : Int → Int} {us ns : List Int} {full : Prop} {vs : List Value}

theorem none_of_new {h : Heap} {P : Addr → Prop} (k : ∀ b, P b → ∃ o, h.get? b = some o) : ¬ P h.objs.size := fun q => by
  obtain ⟨o, e⟩ := k _ q
  exact Nat.lt_irrefl _ (Heap.lt_size e)
theorem none_of_new' {st h : Heap} (k : ∀ b, (∃ o, st.get? b = some o) → ∃ o, h.get? b = some o) : st.get? h.objs.size = none := by
  cases q : st.get? h.objs.size with
  | none => rfl
  | some o => obtain ⟨o', e⟩ := k _ ⟨o, q⟩; exact absurd (Heap.lt_size e) (Nat.lt_irrefl _)
theorem KAt.ext {h h' : Heap} (X : KAt hb st wr fr mine C h) (k : ∀ b o, h.get? b = some o → h'.get? b = some o) : KAt hb st wr fr mine C h' :=
  ⟨fun b o e => k b o (X.stay b o e), X.bC, X.wC, X.mC, X.fC, X.mb, fun b q => let ⟨o, e⟩ := X.mh b q; ⟨o, k b o e⟩, fun b q => let ⟨o, e⟩ := X.fh b q; ⟨o, k b o e⟩, fun b q => let ⟨o, e⟩ := X.sh b q; ⟨o, k b o e⟩⟩
theorem KAt.store {h h' : Heap} {m : Str → Option Value} (X : KAt hb st wr fr mine C h) (hn : h'.Ns C m) (k : Heap.SameBut C h h') : KAt hb st wr fr mine C h' := by
  have al : ∀ b, (∃ o, h.get? b = some o) → ∃ o, h'.get? b = some o := fun b ⟨o, e⟩ => by
    by_cases q : b = C
    · obtain ⟨oC, _, _, e', _⟩ := hn; exact ⟨oC, q ▸ e'⟩
    · exact ⟨o, k.extBut b o q e⟩
  exact ⟨fun b o e => k.extBut b o (fun q => by rw [q, X.bC] at e; cases e) (X.stay b o e), X.bC, X.wC, X.mC, X.fC, X.mb, fun b q => al b (X.mh b q), fun b q => al b (X.fh b q), fun b q => al b (X.sh b q)⟩

theorem key_start (hh : A.handled = none) (hroom : A.depth + 5 < recursionLimit) (G : GB hb mg mb) (W : WayAt prog w hb f wf) (hr : hb.IsList r vs.toArray) (hI : IntsAre vs ns) (hns : ∀ x ∈ ns, 0 ≤ x ∧ x < 12) (hlen : ns.length ≤ 60)
    {s : Shared} {m : Str → Option Value} {N : Nat} (X : KAt hb st wr fr mine C s.heap) (hn : s.heap.Ns C m) (hm1 : m "iterable" = some (.ref r)) (hm2 : m "key" = some (.ref wf))
    (hN : N ≤ (uniq f (fun _ => false) ns).length) (hfN : full → N = (uniq f (fun _ => false) ns).length) (hz : N = 0 → full) (hNu : N ≤ us.length) (hus : us.drop (us.length - N) = (uniq f (fun _ => false) ns).take N) :
    Seg (model prog w) A (Rp st wr fr) (Yp st wr fr mine us full tz) N s (.func ueBody (ueEnv C a cd)) ((model prog w).den (.func ueBody (ueEnv C a cd))) [] s := by
  have hh' : (A.over (.func ueBody (ueEnv C a cd)) []).handled = none := hh
  refine seg_func (seg_execs_cons (seg_plain ?_))
  refine wpAny_Assign_Name (Call_ (gb_builtin G X.stay (by decide) (v := .type "set") (by decide +kernel) (callWith_type0 (call_set_0 fun led => ?_)) rfl rfl rfl rfl))
  generalize hSe : s.heap.objs.size = Se
  have oSt : st.get? Se = none := hSe ▸ none_of_new' X.sh
  have oSb : hb.get? Se = none := hSe ▸ X.stay.fresh
  have oSm : ¬ mine Se := hSe ▸ none_of_new X.mh
  have oSf : ¬ fr Se := hSe ▸ none_of_new X.fh
  have oSC : C ≠ Se := hSe ▸ Nat.ne_of_lt hn.lt
  have hset₁ : (s.heap.push { cls := .type "set", dict := none, data := .set #[] 0 (.fresh 0 0 led) }).get? Se = some { cls := .type "set", dict := none, data := .set #[] 0 (.fresh 0 0 led) } := hSe ▸ Heap.get?_push_size _ rfl
  have up₁ : ∀ b o, s.heap.get? b = some o → (s.heap.push { cls := .type "set", dict := none, data := .set #[] 0 (.fresh 0 0 led) }).get? b = some o := fun b o e => Heap.get?_push_of_some _ e
  generalize s.heap.push { cls := .type "set", dict := none, data := .set #[] 0 (.fresh 0 0 led) } = H₁ at hset₁ up₁ ⊢
  have X₁ := X.ext up₁
  refine ue_st (hn.keeps up₁) fun h₂ hn₂ hs₂ => ?_
  have X₂ := X₁.store hn₂ hs₂
  have hset₂ := hs₂.extBut _ _ oSC.symm hset₁
  refine seg_execs_cons (seg_plain ?_)
  refine wpAny_Assign_Name (Attribute_name (ue_ld hn₂ (v := .ref Se) (by show (if _ then _ else _) = _; rw [if_pos rfl]) (attr_set_add hset₂ ?_)))
  generalize hMt : h₂.objs.size = Mt
  have oMm : ¬ mine Mt := hMt ▸ none_of_new X₂.mh
  have oMC : C ≠ Mt := hMt ▸ Nat.ne_of_lt hn₂.lt
  have oMS : Se ≠ Mt := hMt ▸ Nat.ne_of_lt (Heap.lt_size hset₂)
  have hmt₃ : (h₂.push (boundB "set.add" (.ref Se))).get? Mt = some (boundB "set.add" (.ref Se)) := hMt ▸ Heap.get?_push_size _ rfl
  have up₃ : ∀ b o, h₂.get? b = some o → (h₂.push (boundB "set.add" (.ref Se))).get? b = some o := fun b o e => Heap.get?_push_of_some _ e
  generalize h₂.push (boundB "set.add" (.ref Se)) = H₃ at hmt₃ up₃ ⊢
  have X₃ := X₂.ext up₃
  refine ue_st (hn₂.keeps up₃) fun h₄ hn₄ hs₄ => ?_
  have X₄ := X₃.store hn₄ hs₄
  have hset₄ := hs₄.extBut _ _ oSC.symm (up₃ _ _ hset₂)
  have hmt₄ := hs₄.extBut _ _ oMC.symm hmt₃
  refine seg_execs_cons (seg_If ?_)
  refine wpAny_isTrue_Compare1 (ue_ld hn₄ (v := .ref wf) (by show (if _ then _ else if _ then _ else _) = _; rw [if_neg (by decide), if_neg (by decide)]; exact hm2) ?_)
  refine wpAny_pure (is_ref_none (wpAny_truthy_bool ?_))
  show Seg _ A _ _ N s _ ((execs _ (ueEnv C a cd)).wrap _ _ _ _) [] _
  refine seg_execs_cons (seg_For ?_ fun _ => rfl)
  refine ue_ld hn₄ (v := .ref r) (by show (if _ then _ else if _ then _ else _) = _; rw [if_neg (by decide), if_neg (by decide)]; exact hm1) ?_
  refine wpAny_pyIter_list (hr.at fun o e => X₄.stay _ o e) ?_
  generalize hIt : h₄.objs.size = It
  have oIt : st.get? It = none := hIt ▸ none_of_new' X₄.sh
  have oIb : hb.get? It = none := hIt ▸ X₄.stay.fresh
  have oIm : ¬ mine It := hIt ▸ none_of_new X₄.mh
  have oIf : ¬ fr It := hIt ▸ none_of_new X₄.fh
  have oIC : C ≠ It := hIt ▸ Nat.ne_of_lt hn₄.lt
  have oIS : It ≠ Se := hIt ▸ Nat.ne_of_gt (Heap.lt_size hset₄)
  have oIM : It ≠ Mt := hIt ▸ Nat.ne_of_gt (Heap.lt_size hmt₄)
  have hit₅ : (h₄.push { cls := .type "list_iterator", data := .fields #[.ref r, .int 0 0] }).IsListIter It r 0 := ⟨_, hIt ▸ Heap.get?_push_size _ rfl, rfl, rfl⟩
  have up₅ : ∀ b o, h₄.get? b = some o → (h₄.push { cls := .type "list_iterator", data := .fields #[.ref r, .int 0 0] }).get? b = some o := fun b o e => Heap.get?_push_of_some _ e
  generalize h₄.push { cls := .type "list_iterator", data := .fields #[.ref r, .int 0 0] } = H₅ at hit₅ up₅ ⊢
  intro p
  have O : KOwn hb st wr fr mine C It Se Mt := ⟨X.bC, oIb, oSb, X.wC, .inr oIt, oSt, X.mC, oIm, oSm, oMm, X.mb, X.fC, oIf, oSf, oIC, oSC, oMC, oIS, oIM, oMS⟩
  have hset₅ : H₅.SetOf (intKind prog w) Se (fun _ => false) 0 := (setObjOf_fresh (knd := intKind prog w) led).setOf (up₅ _ _ hset₄) (by decide)
  have K₅ : KInv prog w hb st wr mine C r wf It Se Mt 0 (fun _ => false) 0 _ H₅ := ⟨(X₄.ext up₅).stay, hn₄.keeps up₅, hit₅, hset₅, up₅ _ _ hmt₄,
    (by show (if _ then _ else if _ then _ else _) = _; rw [if_neg (by decide), if_neg (by decide)]; exact hm2), (by show (if _ then _ else if _ then _ else _) = _; rw [if_neg (by decide), if_pos rfl]), (by show (if _ then _ else _) = _; rw [if_pos rfl])⟩
  have S₁ : Sn st wr fr s { s with heap := H₁ } := (Sn.refl st wr fr s).ext (tk := s.toks) up₁
  have S₂ : Sn st wr fr s { s with heap := h₂, toks := s.toks + 1 } := S₁.trans (sn_but (s := { s with heap := H₁ }) (.inl X.wC) X.fC hs₂.extBut)
  have S₃ : Sn st wr fr s { s with heap := H₃, toks := s.toks + 1 + 1 } := S₂.ext up₃
  have S₄ : Sn st wr fr s { s with heap := h₄, toks := s.toks + 1 + 1 + 1 } := S₃.trans (sn_but (s := { s with heap := H₃, toks := s.toks + 1 + 1 }) (.inl X.wC) X.fC hs₄.extBut)
  have S₅ := S₄.ext (tk := s.toks + 1 + 1 + 1) up₅
  exact key_turn rfl rfl rfl hh hroom O W hr hI hns hlen ns 0 _ 0 N s _ _ (List.drop_zero) (Nat.zero_le _) (Nat.le_refl _) K₅ S₅ hN hfN hz hNu hus
end
end
end Mine

namespace Mine
section
set_option maxRecDepth 100000
open PySem.Builtin

abbrev ueFn (doc pm ct : Value) (an : Option Addr) : FuncData := fnOf "unique_everseen" "unique_everseen" ueParams ueBody ueScope (.ref 52) .none doc pm an (.ref 58) ct

structure UeAt (hb : Heap) : Prop where
  fn : ∃ doc pm ct an, hb.get? 59 = some { cls := .type "function", data := .func (ueFn doc pm ct an) }
  code : hb.CodeRec (.ref 58) "unique_everseen"
  dflt : hb.get? 52 = some { cls := .type "tuple", data := .seq #[.none] }

/-- what an evaluation does to the whole state, seen from the law's frame `L` -/
structure Lv (L : Addr) (s s' : Shared) : Prop where
  keep : ∀ b o, b ≠ L → s.heap.get? b = some o → s'.heap.get? b = some o
  ns : ∀ m, s.heap.Ns L m → s'.heap.Ns L m
  bare : AllBare s.gens → AllBare s'.gens
  drawn : s'.drawn = s.drawn
  os : s'.os = s.os
theorem Lv.refl (L : Addr) (s : Shared) : Lv L s s := ⟨fun _ _ _ e => e, fun _ e => e, fun e => e, rfl, rfl⟩
theorem Lv.trans {L : Addr} {s₁ s₂ s₃ : Shared} (x : Lv L s₁ s₂) (y : Lv L s₂ s₃) : Lv L s₁ s₃ :=
  ⟨fun b o hb e => y.keep b o hb (x.keep b o hb e), fun m e => y.ns m (x.ns m e), fun e => y.bare (x.bare e), y.drawn.trans x.drawn, y.os.trans x.os⟩
theorem Lv.ext {L : Addr} {s : Shared} {h : Heap} {tk : Nat} (hk : ∀ b o, s.heap.get? b = some o → h.get? b = some o) : Lv L s { s with heap := h, toks := tk } :=
  ⟨fun b o _ e => hk b o e, fun _ e => e.keeps hk, fun e => e, rfl, rfl⟩

section
variable {prog : Program} {w : World} {A : Around} {E : Value → Shared → Prop} {s : Shared} {hb : Heap} {mg mb : Str → Option Value}

theorem call_ue {args : Args} {binds : List (Str × Value)} {Q : Value → Shared → Prop} (hroom : A.depth < recursionLimit) (U : UeAt hb) (st : hb.StaysIn s.heap) (hl : hb.NoLimit)
    (hbind : ∀ doc pm ct an, BindsTo s (ueFn doc pm ct an) args binds) (hloc : ∀ y ∈ binds, ueScope.names.lookup y.1 = some .local)
    (hQ : ∀ (C a : Addr) (h' : Heap) (tk : Nat), h'.Ns C (fun x => binds.reverse.lookup x) → h'.IsGen a s.gens.size → C ≠ a → (∀ b o, s.heap.get? b = some o → h'.get? b = some o) → s.heap.get? C = none → s.heap.get? a = none →
      Q (.ref a) { s with heap := h', gens := s.gens.push (.fresh (.func ueBody (ueEnv C 59 (.ref 58)))), toks := tk }) :
    wpAny (model prog w) A (call (.ref 59) args.pos args.kw) Q E s := by
  obtain ⟨doc, pm, ct, an, ho⟩ := U.fn
  refine wpAny_call (codeAny_call_generator (args := args) hroom (st _ _ ho) rfl rfl rfl rfl (U.code.keeps st) ?_)
  refine hbind doc pm ct an _ _ _ _ ?_
  refine wpAny_newFunctionEnv (show ∀ x ∈ ueScope.names, x.2 ≠ .cell by decide) hloc (fun h' hn hs => ?_) rfl
  have up : ∀ b o, s.heap.get? b = some o → h'.get? b = some o := fun b o e => hs.extBut b o (Nat.ne_of_lt (Heap.lt_size e)) (Heap.get?_push_of_some _ e)
  refine ⟨(hl.keeps st).keeps up, ?_⟩
  have hlt := hn.lt
  refine hQ s.heap.objs.size h'.objs.size _ _ (hn.push _) ⟨_, _, _, Heap.get?_push_size _ rfl, rfl, rfl, rfl⟩ (Nat.ne_of_lt hlt) (fun b o e => Heap.get?_push_of_some _ (up b o e)) (Heap.get?_none_of_le (Nat.le_refl _)) (Heap.get?_none_of_le (Nat.le_of_lt hlt))

theorem list_ue {args : Args} {binds : List (Str × Value)} {Q : Value → Shared → Prop} {L : Addr} {us : List Int} (hh : A.handled = none) (hroom : A.depth < recursionLimit) (hus : us.length ≤ sizeLine) (U : UeAt hb) (st : hb.StaysIn s.heap) (hl : hb.NoLimit) (hL : ∃ o, s.heap.get? L = some o) (hbL : hb.get? L = none)
    (hbind : ∀ doc pm ct an, BindsTo s (ueFn doc pm ct an) args binds) (hloc : ∀ y ∈ binds, ueScope.names.lookup y.1 = some .local)
    (start : ∀ (C : Addr) (st : Heap) (mine : Addr → Prop) (s₂ : Shared), s.heap.get? C = none → ¬ mine L → (∀ b o, s.heap.get? b = some o → b ≠ L → s₂.heap.get? b = some o) → (∀ m, s.heap.Ns L m → s₂.heap.Ns L m) → KAt hb st (fun b => b = C ∨ b = L) (· = L) mine C s₂.heap → s₂.heap.Ns C (fun x => binds.reverse.lookup x) →
      Seg (model prog w) A.in1.in1.in1 (Rp st (fun b => b = C ∨ b = L) (· = L)) (Yp st (fun b => b = C ∨ b = L) (· = L) mine us True tz) us.length s₂ (.func ueBody (ueEnv C 59 (.ref 58))) ((model prog w).den (.func ueBody (ueEnv C 59 (.ref 58)))) [] s₂)
    (hQ : ∀ D ys s', s.heap.get? D = none → Lv L s s' → s'.heap.PlainList D ys.toArray → IntsAre ys us → Q (.ref D) s') :
    wpAny (model prog w) A (call (.ref 59) args.pos args.kw) (fun gv s₁ => wpAny (model prog w) A (call (.type "list") [gv]) Q E s₁) E s := by
  refine call_ue hroom U st hl hbind hloc fun C a h' tk hn hg hCa up hC ha => ?_
  obtain ⟨oL, heL⟩ := hL
  have hbC : hb.get? C = none := by
    cases q : hb.get? C with
    | none => rfl
    | some o => rw [st _ _ q] at hC; cases hC
  have hLa : a ≠ L := fun q => by rw [q, heL] at ha; cases ha
  have hLC : L ≠ C := fun q => by rw [q, hC] at heL; cases heL
  have ltC : C < h'.objs.size := hn.lt
  have ltL : L < h'.objs.size := Heap.lt_size (up _ _ heL)
  have hl' : h'.NoLimit := (hl.keeps st).keeps up
  have ncs : ∀ x, x = C ∨ x = L → cStatics ≠ x := fun x hx q => by
    obtain ⟨mc, ⟨o, _, _, ho, _⟩, _⟩ := hl
    rcases hx with rfl | rfl
    · rw [q, hbC] at ho; cases ho
    · rw [q, hbL] at ho; cases ho
  refine list_gen (zz := tz) (wr := fun b => b = C ∨ b = L) (fr := (· = L)) (us := us) hh hroom hus (fun b hb => by rcases hb with rfl | rfl; exact ltC; exact ltL) (fun b hb => hb ▸ ltL) hg
    (fun q => q.elim (fun e => hCa e.symm) hLa) hl' (fun q => ncs _ q rfl) (fun S H oS hS upH hoS s₂ hg₂ hw₂ => ?_) fun s' ys hm hl₁ hpl hI => ?_
  · have neS : ∀ b, (∃ o, h'.get? b = some o) → b ≠ S := fun b ⟨o, e⟩ q => by
      have e' : h'.get? S = some o := q ▸ e
      have : h'.get? S = none := hS
      rw [this] at e'; cases e'
    have keep₂ : ∀ b o, h'.get? b = some o → s₂.heap.get? b = some o := fun b o e => hw₂.1 b o (neS b ⟨o, e⟩) (upH b o e)
    refine ⟨hg.keeps keep₂, hl'.keeps keep₂, .fresh _, by rw [hg₂]; exact Array.getElem?_push_size .., fun s'' hw => ⟨rfl, ?_⟩⟩
    have keep₃ : ∀ b o, h'.get? b = some o → s''.heap.get? b = some o := fun b o e => hw.1 b o (neS b ⟨o, e⟩) (keep₂ b o e)
    have hbS : hb.get? S = none := by
      cases q : hb.get? S with
      | none => rfl
      | some o => exact absurd rfl (neS S ⟨o, up _ _ (st _ _ q)⟩)
    refine start C H (· = S) s'' hC (neS L ⟨_, up _ _ heL⟩) (fun b o e _ => keep₃ b o (up b o e)) (fun m e => (e.keeps up).keeps keep₃) ⟨fun b o e => keep₃ b o (up b o (st b o e)), hbC, .inl rfl, fun q => neS C (let ⟨o, _, _, e, _⟩ := hn; ⟨o, e⟩) q, fun q => hLC q.symm, fun b q => q ▸ hbS, fun b q => ?_, fun b q => ⟨oL, keep₃ _ _ (by rw [q]; exact up _ _ heL)⟩, fun b q => ?_⟩ (hn.keeps keep₃)
    · obtain ⟨o, e⟩ := hw₂.2.1 S ⟨_, hoS⟩
      exact q ▸ hw.2.1 S ⟨o, e⟩
    · exact hw.2.1 b (hw₂.2.1 b q)
  · refine hQ _ ys s' ?_ ⟨fun b o hb e => hm.keep b o ⟨o, up b o e⟩ (fun q => ?_) (up b o e), fun m e => hm.frm L m rfl (e.keeps up), fun hb => AllBare.moved (a := s.gens.push _) (hb.push rfl) hm.gens, hm.drawn, hm.os⟩ hpl hI
    · cases q : s.heap.get? h'.objs.size with
      | none => rfl
      | some o => exact absurd (Heap.lt_size (up _ _ q)) (Nat.lt_irrefl _)
    · rcases q with q | q
      · rw [q, hC] at e; cases e
      · exact hb q

theorem key_binds {r wf : Addr} (U : UeAt hb) (st : hb.StaysIn s.heap) (doc pm ct : Value) (an : Option Addr) : BindsTo s (ueFn doc pm ct an) ⟨[.ref r], [("key", .ref wf)]⟩ [("iterable", .ref r), ("key", .ref wf)] :=
  BindsTo.of_defaults (T := 52) rfl (st _ _ U.dflt) rfl rfl rfl
theorem pos_binds {r wf : Addr} (U : UeAt hb) (st : hb.StaysIn s.heap) (doc pm ct : Value) (an : Option Addr) : BindsTo s (ueFn doc pm ct an) ⟨[.ref r, .ref wf], []⟩ [("iterable", .ref r), ("key", .ref wf)] :=
  BindsTo.of_defaults (T := 52) rfl (st _ _ U.dflt) rfl rfl rfl
theorem one_binds {r : Addr} (U : UeAt hb) (st : hb.StaysIn s.heap) (doc pm ct : Value) (an : Option Addr) : BindsTo s (ueFn doc pm ct an) ⟨[.ref r], []⟩ [("iterable", .ref r), ("key", .none)] :=
  BindsTo.of_defaults (T := 52) rfl (st _ _ U.dflt) rfl rfl rfl
theorem ue_locs {x y : Value} : ∀ z ∈ ([("iterable", x), ("key", y)] : List (Str × Value)), ueScope.names.lookup z.1 = some .local := fun z hz => by
  rcases List.mem_cons.mp hz with rfl | hz
  · rfl
  · rw [List.mem_singleton.mp hz]; rfl
theorem ue_m1 {x y : Value} : (([("iterable", x), ("key", y)] : List (Str × Value)).reverse.lookup ("iterable" : Str)) = some x := rfl
theorem ue_m2 {x y : Value} : (([("iterable", x), ("key", y)] : List (Str × Value)).reverse.lookup ("key" : Str)) = some y := rfl

theorem list_key {args : Args} {r wf L : Addr} {f : Int → Int} {ns : List Int} {vs : List Value} {Q : Value → Shared → Prop} (ha : args = ⟨[.ref r], [("key", .ref wf)]⟩ ∨ args = ⟨[.ref r, .ref wf], []⟩)
    (hh : A.handled = none) (hroom : A.depth + 5 < recursionLimit) (U : UeAt hb) (G : GB hb mg mb) (st : hb.StaysIn s.heap) (hL : ∃ o, s.heap.get? L = some o) (hbL : hb.get? L = none)
    (W : WayAt prog w hb f wf) (hr : hb.IsList r vs.toArray) (hI : IntsAre vs ns) (hns : ∀ x ∈ ns, 0 ≤ x ∧ x < 12) (hlen : ns.length ≤ 60)
    (hQ : ∀ D ys s', s.heap.get? D = none → Lv L s s' → s'.heap.PlainList D ys.toArray → IntsAre ys (uniq f (fun _ => false) ns) → Q (.ref D) s') :
    wpAny (model prog w) A (call (.ref 59) args.pos args.kw) (fun gv s₁ => wpAny (model prog w) A (call (.type "list") [gv]) Q E s₁) E s := by
  have hlu : ∀ (l : List Int) (S : Int → Bool), (uniq f S l).length ≤ l.length := fun l => by
    induction l with
    | nil => intro S; exact Nat.le_refl _
    | cons x l ih =>
      intro S
      unfold uniq
      split
      · exact Nat.le_succ_of_le (ih _)
      · exact Nat.succ_le_succ (ih _)
  refine list_ue (hb := hb) (binds := [("iterable", .ref r), ("key", .ref wf)]) (us := uniq f (fun _ => false) ns) hh (by omega) (by have := hlu ns (fun _ => false); rw [sizeLine_eq]; omega) U st G.nolimit hL hbL (fun doc pm ct an => ?_) ue_locs (fun C st' mine s₂ _ _ _ _ X hn => ?_) hQ
  · rcases ha with rfl | rfl
    · exact key_binds U st doc pm ct an
    · exact pos_binds U st doc pm ct an
  · exact key_start (A := A.in1.in1.in1) hh hroom G W hr hI hns hlen X hn ue_m1 ue_m2 (Nat.le_refl _) (fun _ => rfl) (fun _ => trivial) (Nat.le_refl _) (by rw [Nat.sub_self, List.drop_zero, List.take_length])
end
end
end Mine

namespace Mine
section
set_option maxRecDepth 100000
set_option linter.unusedVariables false
open PySem.Builtin

abbrev lamPar (p : Pos) : Arguments := { posonlyargs := [], args := [{ arg := "one", annotation := none, pos := p }], vararg := none, kwonlyargs := [], kw_defaults := [], kwarg := none, defaults := [] }
abbrev lamSc : Scope := { kind := .function, names := [("one", .local)], isGenerator := false, isCoroutine := false }
abbrev lamEnv (qual : Str) (L wf : Addr) (cd : Value) : Env := envX qual lamSc L wf cd []

section
variable {prog : Program} {w : World} {A : Around} {E : Value → Shared → Prop} {s : Shared} {hb : Heap}

theorem way_of {name qual : Str} {p : Pos} {body : Expr} {pm ctv : Value} {c' wf : Addr} {f : Int → Int} (hf : hb.get? wf = some (kla_obj name qual (lamPar p) body lamSc [] pm c' ctv)) (hcd : hb.CodeRec (.ref c') qual) (hl : hb.NoLimit)
    (ev : ∀ (A : Around) (E : Value → Shared → Prop) (Q : Value → Shared → Prop) (v : Int) (t : Tok) (s : Shared) (L : Addr), s.heap.Ns L (fun y => ([("one", .int v t)] : List (Str × Value)).reverse.lookup y) →
      (∀ t' h' tk, (∀ b o, s.heap.get? b = some o → h'.get? b = some o) → Q (.int (f v) t') { s with heap := h', toks := tk }) → wpAny (model prog w) A (eval body (lamEnv qual L wf (.ref c'))) Q E s) :
    WayAt prog w hb f wf where
  fn := ⟨_, _, hf, rfl⟩
  call := fun A E Q v t s hroom st _ _ hQ => by
    refine wpAny_call (kla_callFunE (by omega) (st _ _ hf) rfl rfl rfl rfl (hcd.keeps st) ?_)
    refine wpAny_of_eq (a := [(("one" : Str), .int v t)]) rfl ?_
    refine wpAny_newFunctionEnv (show ∀ x ∈ lamSc.names, x.2 ≠ .cell by decide) (fun x hx => by rw [List.mem_singleton.mp hx]; rfl) (fun h' hn hs => ⟨(hl.keeps st).fresh _ hs, kla_codeExpr (ev _ _ _ v t _ _ hn fun t' h'' tk hk => ?_)⟩) rfl
    exact hQ t' h'' tk fun b o e => hk b o (hs.extBut b o (Nat.ne_of_lt (Heap.lt_size e)) (Heap.get?_push_of_some _ e))

theorem lam_name {qual : Str} {L wf : Addr} {cd : Value} {pos : Pos} {v : Value} {Q : Value → Shared → Prop} (hn : s.heap.Ns L (fun y => ([("one", v)] : List (Str × Value)).reverse.lookup y)) (h : Q v s) :
    wpAny (model prog w) A (eval (.Name "one" pos) (lamEnv qual L wf cd)) Q E s := wpAny_Name (wpAny_loadName_local rfl rfl hn rfl h) (by decide)

variable {name qual : Str} {p : Pos} {pm ctv : Value} {c' wf : Addr}
theorem way_id {q : Pos} (hf : hb.get? wf = some (kla_obj name qual (lamPar p) (.Name "one" q) lamSc [] pm c' ctv)) (hcd : hb.CodeRec (.ref c') qual) (hl : hb.NoLimit) : WayAt prog w hb (fun v => v) wf :=
  way_of hf hcd hl fun A E Q v t s L hn hQ => lam_name hn (hQ t s.heap s.toks fun _ _ e => e)
theorem way_zero {k : Nat} {q : Pos} (hf : hb.get? wf = some (kla_obj name qual (lamPar p) (.Constant (.int 0) k q) lamSc [] pm c' ctv)) (hcd : hb.CodeRec (.ref c') qual) (hl : hb.NoLimit) : WayAt prog w hb (fun _ => 0) wf :=
  way_of hf hcd hl fun A E Q v t s L hn hQ => wpAny_Constant_int (hQ _ s.heap _ fun _ _ e => e)
theorem way_mod {k : Nat} {q q₁ q₂ : Pos} (hf : hb.get? wf = some (kla_obj name qual (lamPar p) (.BinOp (.Name "one" q) .Mod (.Constant (.int 5) k q₁) q₂) lamSc [] pm c' ctv)) (hcd : hb.CodeRec (.ref c') qual) (hl : hb.NoLimit) : WayAt prog w hb (fun v => v.fmod 5) wf :=
  way_of hf hcd hl fun A E Q v t s L hn hQ => wpAny_BinOp (lam_name hn (wpAny_Constant_int (mod_int' (by decide) (hQ _ s.heap _ fun _ _ e => e))))
end
end
end Mine

namespace Mine
section
set_option maxRecDepth 100000
set_option linter.unusedVariables false
open PySem.Builtin

/-- the scope of `[way(other) for other in ..]` -/
abbrev wsc : Scope := { kind := .function, names := [(Str.ofString ".0", .local), (Str.ofString "other", .local), (Str.ofString "way", .free)], isGenerator := false, isCoroutine := false, more := [] }
abbrev waysE (iter : Expr) (p₁ p₂ p₃ p₄ p₅ : Pos) : Expr := .ListComp (.Call (.Name "way" p₁) [.Name "other" p₂] [] p₃) [⟨.Name "other" p₄, iter, [], 0⟩] wsc p₅

theorem relabel_free {env : Env} (hk : env.scope.kind = .function) : ∀ {names : List (Str × NameKind)} {x : Str}, env.kindOf x = some .cell → names.lookup x = some .free →
    (names.map fun (n, k) => if (k == NameKind.free && env.scope.kind == .function && env.kindOf n == some .cell) then (n, NameKind.cell) else (n, k)).lookup x = some .cell
  | [], _, _, h => by simp at h
  | (n, k) :: r, x, hx, h => by
    have ih := relabel_free hk (names := r) hx
    show List.lookup x ((if (k == NameKind.free && env.scope.kind == .function && env.kindOf n == some .cell) = true then (n, NameKind.cell) else (n, k)) :: _) = _
    cases hn : x == n with
    | true =>
      simp only [List.lookup_cons, hn] at h
      cases h
      have e : x = n := eq_of_beq hn
      subst e
      rw [hk, hx, if_pos (by decide)]
      simp
    | false =>
      simp only [List.lookup_cons, hn] at h
      split <;> simp only [List.lookup_cons, hn] <;> exact ih h

theorem paired_ints {f : Int → Int} : ∀ {vs ys : List Value} {ns : List Int}, IntsAre vs ns → Paired (fun v y => ∀ k t, v = .int k t → ∃ t', y = .int (f k) t') vs ys → IntsAre ys (ns.map f)
  | _, _, _, .nil, .nil => .nil
  | _, _, _, .cons n t h, .cons hy r => by
    obtain ⟨t', rfl⟩ := hy n t rfl
    exact .cons _ t' (paired_ints h r)

section
variable {prog : Program} {w : World} {A : Around} {E : Value → Shared → Prop} {s : Shared} {hb : Heap} {mg mb : Str → Option Value} {env : Env} {wf c : Addr} {f : Int → Int}

theorem ways_comp {iter : Expr} {p₁ p₂ p₃ p₄ p₅ : Pos} {cl : List (Str × Addr)} {Q : Value → Shared → Prop} (hh : A.handled = none) (hroom : A.depth + 3 < recursionLimit) (W : WayAt prog w hb f wf)
    (hclos : closureFor wsc env = pure cl) (hcl : cl.lookup ("way" : Str) = some c) (hkf : env.scope.kind = .function) (hkw : env.kindOf "way" = some .cell)
    (h : wpAny (model prog w) A (eval iter env) (fun xv s₁ => ∃ l vs ns, xv = .ref l ∧ s₁.heap.IsList l (vs : List Value).toArray ∧ IntsAre vs ns ∧ (∀ x ∈ ns, 0 ≤ x ∧ x < 12) ∧ ns.length ≤ 60 ∧ s₁.heap.IsCell c (some (.ref wf)) ∧ hb.StaysIn s₁.heap ∧
      (∀ D h' tk ys, (∀ b o, s₁.heap.get? b = some o → h'.get? b = some o) → s₁.heap.get? D = none → h'.PlainList D (ys : List Value).toArray → IntsAre ys (ns.map f) → Q (.ref D) { s₁ with heap := h', toks := tk })) E s)
    (hs : ∀ x, foldedSetIterable iter env x = pure x) :
    wpAny (model prog w) A (eval (waysE iter p₁ p₂ p₃ p₄ p₅) env) Q E s := by
  refine wpAny_ListComp_free (fun _ => true) (fun v y => ∀ k t, v = .int k t → ∃ t', y = .int (f k) t') hclos (by decide) rfl (by decide) (by rfl) (wpAny_mono h (fun xv s₁ h₁ => ?_) fun _ _ e => e) hs
  obtain ⟨l, vs, ns, rfl, hl, hI, hns, hlen, hc, st, hQ⟩ := h₁
  refine wpAny_pyIter_list hl ?_
  have hll : l < s₁.heap.objs.size := let ⟨_, e, _⟩ := hl; Heap.lt_size e
  have up : ∀ b o, s₁.heap.get? b = some o → (s₁.heap.push { cls := .type "list_iterator", data := .fields #[.ref l, .int 0 0] }).get? b = some o := fun b o e => Heap.get?_push_of_some _ e
  refine ⟨s₁.heap.objs.size, [s₁.heap.objs.size, l], [s₁.heap.objs.size], vs.toArray.size, _, _, rfl, Walks.list hh _ l (Nat.ne_of_lt hll) vs.toArray, ?_, ⟨⟨_, Heap.get?_push_size _ rfl, rfl, rfl⟩, hl.push _⟩, ?_, ⟨?_, ?_⟩, ?_⟩
  · rw [sizeLine_eq, List.size_toArray, hI.length]; omega
  · intro b hb'
    rcases List.mem_cons.mp hb' with rfl | hb'
    · show _ < (s₁.heap.push _).objs.size; rw [Heap.size_push]; exact Nat.lt_succ_self _
    · rw [List.mem_singleton.mp hb']; show _ < (s₁.heap.push _).objs.size; rw [Heap.size_push]; exact Nat.lt_succ_of_lt hll
  · intro C i v s₃ m₃ E' _ _ _ _ _ _
    exact wpAny_pure ⟨rfl, s₃.heap, s₃.toks, rfl, fun _ _ e => e⟩
  · intro C i v s₃ m₃ E' hC hv _ hn hm hk _
    have kp : ∀ b o, s₁.heap.get? b = some o → s₃.heap.get? b = some o := fun b o e => hk b o (fun q => by rw [List.mem_singleton.mp q] at e; exact absurd (Heap.lt_size e) (Nat.lt_irrefl _)) (up b o e)
    have hlt : i < ns.length := by
      have := (Array.getElem?_eq_some_iff.mp hv).1
      rwa [List.size_toArray, hI.length] at this
    obtain ⟨tx, hvx⟩ := hI.get i _ (List.getElem?_eq_getElem hlt)
    rw [List.getElem?_toArray] at hv
    have hve : v = .int ns[i] tx := Option.some.inj (hv.symm.trans hvx)
    subst hve
    have hx := hns _ (List.getElem_mem hlt)
    obtain ⟨o, fd, ho, hdat⟩ := W.fn
    have hc₃ : s₃.heap.IsCell c (some (.ref wf)) := hc.keeps kp
    have kw : Env.kindOf (compEnvC wsc cl C env) "way" = some .cell := relabel_free hkf hkw (by rfl)
    have ko : Env.kindOf (compEnvC wsc cl C env) "other" = some .local := lookup_relabel_local (by rfl)
    refine Call_ (wpAny_Name (wpAny_loadName_cell rfl kw hcl hc₃ ?_))
    refine callWith_def hdat (args_cons (wpAny_Name (wpAny_loadName_local rfl ko hn hm (args_nil ⟨kp _ _ (st _ _ ho), ?_⟩))))
    refine W.call _ _ _ _ tx _ hroom (fun b o e => kp b o (st b o e)) hx.1 hx.2 fun t' h' tk' hk' => ⟨fun k t e => by cases e; exact ⟨t', rfl⟩, h', tk', rfl, hk'⟩
  · intro D h' tk ys vs' hD hl' hpl hlen' hP hF hk
    have kp : ∀ b o, s₁.heap.get? b = some o → h'.get? b = some o := fun b o e => hk b o (fun q => by rw [List.mem_singleton.mp q] at e; exact absurd (Heap.lt_size e) (Nat.lt_irrefl _)) (up b o e)
    have e : vs' = vs := by
      refine List.ext_getElem? fun j => ?_
      cases q : vs'[j]? with
      | some v => have := hP j v q; rw [List.getElem?_toArray] at this; exact this.symm
      | none =>
        have := List.getElem?_eq_none_iff.mp q
        rw [hlen', List.size_toArray] at this
        exact (List.getElem?_eq_none this).symm
    subst e
    refine hQ D h' tk ys.toList kp ?_ (by simpa using hpl) (paired_ints hI (by rw [List.filter_eq_self.mpr fun _ _ => rfl] at hF; exact hF))
    cases q : s₁.heap.get? D with
    | none => rfl
    | some o => have := up _ _ q; rw [hD] at this; cases this
end
end
end Mine

namespace Mine
section
set_option maxRecDepth 100000
set_option linter.unusedVariables false
open PySem.Builtin

/-- what `_law_firsts` keeps: each that no one ahead of it (of `p`, then of the row) is like -/
def firstsGo (f : Int → Int) : List Int → List Int → List Int
  | _, [] => []
  | p, x :: r => if (p.map f).any (· == f x) then firstsGo f (p ++ [x]) r else x :: firstsGo f (p ++ [x]) r

structure LfAt (hb : Heap) : Prop where
  fn : ∃ o pm doc, hb.get? 64 = some o ∧ o.data = .func (Calls.docDef "_law_firsts" lfParams lfBody lfScope pm (.ref 63) doc)
  code : hb.CodeRec (.ref 63) "_law_firsts"

abbrev lfEnv (L a : Addr) (cd : Value) : Env := envOfC "_law_firsts" lfScope L a cd
abbrev lfSc : Scope := { kind := .function, names := [(Str.ofString ".0", .local), (Str.ofString "k", .local), (Str.ofString "one", .local), (Str.ofString "row", .free), (Str.ofString "way", .free)], isGenerator := false, isCoroutine := false, more := [] }
abbrev lfCl (L : Addr) : List (Str × Addr) := [("way", L + 1 + 1), ("row", L + 1)]
abbrev lfComp (C L a : Addr) (cd : Value) : Env := compEnvC lfSc (lfCl L) C (lfEnv L a cd)

theorem lf_clos (L a : Addr) (cd : Value) : closureFor lfSc (lfEnv L a cd) = pure (lfCl L) := by with_unfolding_all rfl
theorem lf_clos2 (C L a : Addr) (cd : Value) : closureFor wsc (lfComp C L a cd) = pure [(("way" : Str), L + 1 + 1)] := by with_unfolding_all rfl

section
variable {prog : Program} {w : World} {A : Around} {E : Value → Shared → Prop} {s : Shared} {hb : Heap} {mg mb : Str → Option Value} {wf : Addr} {f : Int → Int}

/-- between two turns of the comprehension -/
structure FInv (h₁ : Heap) (r e it C D : Addr) (f : Int → Int) (ns : List Int) (i : Nat) (h : Heap) : Prop where
  enum : ∃ old, IsEnum h e it i old
  iter : h.IsListIter it r i
  nms : ∃ m, h.Ns C m
  acc : ∃ ys done, h.PlainList D (ys : List Value).toArray ∧ IntsAre ys done ∧ ys.length ≤ i ∧ done ++ firstsGo f (ns.take i) (ns.drop i) = firstsGo f [] ns
  keep : ∀ b o, h₁.get? b = some o → h.get? b = some o

theorem FInv.of {h₁ h' : Heap} {r e it C D : Addr} {ns done : List Int} {i : Nat} {m : Str → Option Value} {old : Value} {ys : List Value} (he : IsEnum h' e it i old) (hi : h'.IsListIter it r i) (hn : h'.Ns C m)
    (hp : h'.PlainList D ys.toArray) (hI : IntsAre ys done) (hl : ys.length ≤ i) (hd : done ++ firstsGo f (ns.take i) (ns.drop i) = firstsGo f [] ns) (hk : ∀ b o, h₁.get? b = some o → h'.get? b = some o) : FInv h₁ r e it C D f ns i h' :=
  ⟨⟨_, he⟩, hi, ⟨_, hn⟩, ⟨_, _, hp, hI, hl, hd⟩, hk⟩

abbrev lfE (p₁ p₂ p₃ p₄ p₅ p₆ p₇ p₈ p₉ q₁ q₂ q₃ q₄ q₅ q₆ q₇ q₈ q₉ r₁ r₂ r₃ : Pos) (k : Nat) : Expr :=
  .ListComp (.Name "one" p₁) [⟨.Tuple [.Name "k" p₂, .Name "one" p₃] k p₄, .Call (.Name "enumerate" p₅) [.Name "row" p₆] [] p₇,
      [.Compare (.Call (.Name "way" p₈) [.Name "one" p₉] [] q₁) [.NotIn] [waysE (.Subscript (.Name "row" q₂) (.Slice none (some (.Name "k" q₃)) none q₄) q₅) q₆ q₇ q₈ q₉ r₁] r₂], 0⟩] lfSc r₃

theorem firsts_loop {R : Result → Shared → Prop} {L a r e it C D : Addr} {cd : Value} {p₁ p₂ p₃ p₄ p₅ p₆ p₇ p₈ p₉ q₁ q₂ q₃ q₄ q₅ q₆ q₇ q₈ q₉ r₁ r₂ r₃ : Pos} {k : Nat} {vs : List Value} {ns : List Int}
    (hh : A.handled = none) (hroom : A.depth + 3 < recursionLimit) (W : WayAt prog w hb f wf) (st : hb.StaysIn s.heap)
    (hl : s.heap.IsList r vs.toArray) (hI : IntsAre vs ns) (hns : ∀ x ∈ ns, 0 ≤ x ∧ x < 12) (hlen : ns.length ≤ 60)
    (hrow : s.heap.IsCell (L + 1) (some (.ref r))) (hway : s.heap.IsCell (L + 1 + 1) (some (.ref wf)))
    (hei : e ≠ it) (hCe : C ≠ e) (hCi : C ≠ it) (hDe : D ≠ e) (hDi : D ≠ it) (hDC : D ≠ C) (ne : s.heap.get? e = none) (ni : s.heap.get? it = none) (nC : s.heap.get? C = none) (nD : s.heap.get? D = none)
    (hR : ∀ h' tk m ys, (∀ b o, s.heap.get? b = some o → h'.get? b = some o) → h'.Ns C m → h'.PlainList D (ys : List Value).toArray → IntsAre ys (firstsGo f [] ns) → R (.ok .next) { s with heap := h', toks := tk })
    {h₃ : Heap} {tk₃ : Nat} (X : FInv s.heap r e it C D f ns 0 h₃) :
    codeAny (model prog w) A (.compLoop (lfE p₁ p₂ p₃ p₄ p₅ p₆ p₇ p₈ p₉ q₁ q₂ q₃ q₄ q₅ q₆ q₇ q₈ q₉ r₁ r₂ r₃ k) 0 (.ref e) (.ref D) (lfComp C L a cd)) R { s with heap := h₃, toks := tk₃ } := by
  refine kct_loop (fun n s' => ∃ i h' tk, s' = { s with heap := h', toks := tk } ∧ i ≤ ns.length ∧ n = ns.length + 1 - i ∧ FInv s.heap r e it C D f ns i h') ?_ (ns.length + 1) ⟨0, h₃, tk₃, rfl, Nat.zero_le _, rfl, X⟩
  rintro n s' ⟨i, h, tk, rfl, hi, rfl, ⟨⟨old, he⟩, hit, ⟨m, hn⟩, ⟨ys, done, hp, hIy, hly, hd⟩, hk⟩⟩
  have hl₀ : h.IsList r vs.toArray := hl.at fun o e => hk _ o e
  by_cases hlt : i < ns.length
  · obtain ⟨tx, hvx⟩ := hI.get i _ (List.getElem?_eq_getElem hlt)
    have hx := hns _ (List.getElem_mem hlt)
    have hsp : ns.drop i = ns[i] :: ns.drop (i + 1) := List.drop_eq_getElem_cons hlt
    have htk : ns.take (i + 1) = ns.take i ++ [ns[i]] := by rw [List.take_add_one, List.getElem?_eq_getElem hlt]; rfl
    generalize ns[i] = x at *
    refine wpAny_pyNext_enum_item he hit hl₀ (by rw [List.getElem?_toArray]; exact hvx) hei fun h₄ heo hit₄ ht₄ hz₄ hk₄ => ?_
    refine wpAny_letOwnedTupleGo_enum heo fun h₅ he₅ hs₅ => ?_
    have hTe : h.objs.size ≠ e := Nat.ne_of_gt (Heap.lt_size he)
    have ht₅ : h₅.IsTuple h.objs.size #[.int i tk, .int x tx] := ⟨_, hs₅.extBut _ _ hTe ht₄, rfl, _, rfl⟩
    have up₅ : ∀ b o, b ≠ e → b ≠ it → h.get? b = some o → h₅.get? b = some o := fun b o h1 h2 q => hs₅.extBut b o h1 (hk₄ b o h1 h2 q)
    refine kcp_assign (env := lfComp C L a cd) hh ht₅ (lookup_relabel_local (by rfl)) (lookup_relabel_local (by rfl)) (by rfl) (hn.at' fun o q => up₅ _ o hCe hCi q) fun h₆ tk₆ hn₆ hk₆ => ?_
    replace hk₆ : ∀ b o, b ≠ C → h₅.get? b = some o → h₆.get? b = some o := hk₆
    replace hn₆ : h₆.Ns C (fun z => if z = ("one" : Str) then some (.int x tx) else if z = ("k" : Str) then some (.int i tk) else m z) := hn₆
    have up₆ : ∀ b o, s.heap.get? b = some o → h₆.get? b = some o := fun b o q => hk₆ b o (fun z => by rw [z, nC] at q; cases q) (up₅ b o (fun z => by rw [z, ne] at q; cases q) (fun z => by rw [z, ni] at q; cases q) (hk b o q))
    have hD₆ : h₆.PlainList D ys.toArray := hp.at fun o q => hk₆ _ o hDC (up₅ _ o hDe hDi q)
    have hcast : ((i + 1 : Nat) : Int) = (i : Int) + 1 := by push_cast; rfl
    have he₆ : IsEnum h₆ e it ((i + 1 : Nat) : Int) (.int x tx) := hk₆ _ _ (Ne.symm hCe) (by rw [hcast]; exact he₅)
    have hi₆ : h₆.IsListIter it r (i + 1) := (hit₄.extBut hs₅.extBut (Ne.symm hei)).at fun o q => hk₆ _ o (Ne.symm hCi) q
    obtain ⟨o, fd, ho, hdat⟩ := W.fn
    have kw : Env.kindOf (lfComp C L a cd) "way" = some .cell := relabel_free (env := lfEnv L a cd) rfl rfl (by rfl)
    have kr : Env.kindOf (lfComp C L a cd) "row" = some .cell := relabel_free (env := lfEnv L a cd) rfl rfl (by rfl)
    have ko : Env.kindOf (lfComp C L a cd) "one" = some .local := lookup_relabel_local (by rfl)
    have kk : Env.kindOf (lfComp C L a cd) "k" = some .local := lookup_relabel_local (by rfl)
    refine wpAny_isTrue_Compare1 (Call_ (wpAny_Name (wpAny_loadName_cell rfl kw (c := L + 1 + 1) (by rfl) (hway.keeps up₆) ?_)))
    refine callWith_def hdat (args_cons (wpAny_Name (wpAny_loadName_local rfl ko hn₆ (v := .int x tx) (by show (if _ then _ else _) = _; rw [if_pos rfl]) (args_nil ⟨up₆ _ _ (st _ _ ho), ?_⟩))))
    refine W.call _ _ _ _ tx _ hroom (fun b o q => up₆ _ _ (st b o q)) hx.1 hx.2 fun t' h₇ tk₇ hk₇ => ?_
    refine ways_comp (c := L + 1 + 1) hh hroom W (lf_clos2 C L a cd) (by rfl) rfl kw (wpAny_Subscript_list_slice (wpAny_Name (wpAny_loadName_cell rfl kr (c := L + 1) (by rfl) ((hrow.keeps up₆).keeps hk₇) ?_)) (fun _ _ => rfl)) (fun _ => rfl)
    refine evalPart_none_step (evalPart_some_step (wpAny_Name (wpAny_loadName_local rfl kk (hn₆.keeps hk₇) (v := .int i tk) (by show (if _ then _ else if _ then _ else _) = _; rw [if_neg (by decide), if_pos rfl]) ?_)))
    refine ⟨r, vs.toArray, none, some (i : Int), rfl, (hl.at fun o q => up₆ _ o q).at fun o q => hk₇ _ o q, by rw [sizeLine_eq, List.size_toArray, hI.length]; omega, .none, .int _ _, ?_⟩
    have up₈ : ∀ b o, h₇.get? b = some o → ((h₇.push { cls := .type "slice", data := .fields #[.none, .int i tk, .none] }).push { cls := .type "list", data := .seq (slicePick vs.toArray none (some (i : Int)) none) }).get? b = some o :=
      fun b o q => Heap.get?_push_of_some _ (Heap.get?_push_of_some _ q)
    have hnew : ((h₇.push { cls := .type "slice", data := .fields #[.none, .int i tk, .none] }).push { cls := .type "list", data := .seq (slicePick vs.toArray none (some (i : Int)) none) }).get? (h₇.objs.size + 1) = some { cls := .type "list", data := .seq (slicePick vs.toArray none (some (i : Int)) none) } := by
      have := Heap.get?_push_size (h₇.push { cls := .type "slice", data := .fields #[.none, .int i tk, .none] }) (o := { cls := .type "list", data := .seq (slicePick vs.toArray none (some (i : Int)) none) }) rfl
      rwa [Heap.size_push] at this
    have hsl := slice_ints_upto hI (y := (i : Int)) (Int.natCast_nonneg i) (by omega)
    rw [Int.toNat_natCast] at hsl
    refine ⟨_, (slicePick vs.toArray none (some (i : Int)) none).toList, ns.take i, rfl, ⟨_, hnew, rfl, 0, by simp⟩, hsl, fun y hy => hns y (List.mem_of_mem_take hy), by rw [List.length_take]; omega, ((hway.keeps up₆).keeps hk₇).keeps up₈, fun b o q => up₈ _ _ (hk₇ _ _ (up₆ _ _ (st b o q))), fun K h₉ tk₉ zs hk₉ nK hpK hIz => ?_⟩
    refine notin_list_ints hpK.isList hIz (wpAny_truthy_bool ?_)
    have upA : ∀ b o, h₆.get? b = some o → h₉.get? b = some o := fun b o q => hk₉ _ _ (up₈ _ _ (hk₇ _ _ q))
    cases hb : ((ns.take i).map f).any (· == f x) with
    | true =>
      have hgo : firstsGo f (ns.take i) (ns.drop i) = firstsGo f (ns.take (i + 1)) (ns.drop (i + 1)) := by rw [hsp, htk]; simp only [firstsGo, hb, if_true]
      exact ⟨ns.length + 1 - (i + 1), by omega, i + 1, h₉, tk₉, rfl, hlt, rfl, .of (upA _ _ he₆) (hi₆.at fun o q => upA _ o q) (hn₆.keeps upA) (hD₆.at fun o q => upA _ o q) hIy (Nat.le_succ_of_le hly) (hgo ▸ hd) fun b o q => upA _ _ (up₆ _ _ q)⟩
    | false =>
      have hgo : firstsGo f (ns.take i) (ns.drop i) = x :: firstsGo f (ns.take (i + 1)) (ns.drop (i + 1)) := by rw [hsp, htk]; simp only [firstsGo, hb, Bool.false_eq_true, if_false]
      refine wpAny_Name (wpAny_loadName_local rfl ko (hn₆.keeps upA) (v := .int x tx) (by show (if _ then _ else _) = _; rw [if_pos rfl]) ?_)
      refine wpAny_list_append_plain (hD₆.at fun o q => upA _ o q) (fun hA hpA hsA => ?_) (by rw [sizeLine_eq, List.size_toArray]; omega)
      have upB : ∀ b o, b ≠ D → h₆.get? b = some o → hA.get? b = some o := fun b o hbD q => hsA.extBut _ _ hbD (upA _ _ q)
      refine ⟨ns.length + 1 - (i + 1), by omega, i + 1, hA, tk₉, rfl, hlt, rfl, .of (upB _ _ (Ne.symm hDe) he₆) (hi₆.at fun o q => upB _ o (Ne.symm hDi) q) (hn₆.at' fun o q => upB _ o (Ne.symm hDC) q) (ys := ys ++ [.int x tx]) (done := done ++ [x]) (by simpa using hpA) (hIy.append (.cons _ _ .nil)) (by rw [List.length_append, List.length_singleton]; omega) (by rw [List.append_assoc, List.singleton_append, ← hgo]; exact hd) fun b o q => upB _ _ (fun z => by rw [z, nD] at q; cases q) (up₆ _ _ q)⟩
  · have hie : i = ns.length := by omega
    refine wpAny_pyNext_enum_end hh he hit hl₀ (by rw [List.getElem?_toArray]; exact List.getElem?_eq_none (by rw [hI.length]; omega)) fun h₄ hk₄ => ?_
    rw [List.drop_eq_nil_of_le (by omega)] at hd
    simp only [firstsGo, List.append_nil] at hd
    exact hR h₄ tk m ys (fun b o q => hk₄ _ _ (fun z => by rw [z, ni] at q; cases q) (hk _ _ q)) (hn.extBut hk₄ hCi) (hp.extBut hk₄ hDi) (hd ▸ hIy)

theorem firsts_comp {L a r : Addr} {cd : Value} {p₁ p₂ p₃ p₄ p₅ p₆ p₇ p₈ p₉ q₁ q₂ q₃ q₄ q₅ q₆ q₇ q₈ q₉ r₁ r₂ r₃ : Pos} {k : Nat} {vs : List Value} {ns : List Int} {Q : Value → Shared → Prop}
    (hh : A.handled = none) (hroom : A.depth + 3 < recursionLimit) (W : WayAt prog w hb f wf) (G : GB hb mg mb) (st : hb.StaysIn s.heap)
    (hl : s.heap.IsList r vs.toArray) (hI : IntsAre vs ns) (hns : ∀ x ∈ ns, 0 ≤ x ∧ x < 12) (hlen : ns.length ≤ 60)
    (hrow : s.heap.IsCell (L + 1) (some (.ref r))) (hway : s.heap.IsCell (L + 1 + 1) (some (.ref wf)))
    (hQ : ∀ D h' tk ys, (∀ b o, s.heap.get? b = some o → h'.get? b = some o) → s.heap.get? D = none → h'.PlainList D (ys : List Value).toArray → IntsAre ys (firstsGo f [] ns) → Q (.ref D) { s with heap := h', toks := tk }) :
    wpAny (model prog w) A (eval (lfE p₁ p₂ p₃ p₄ p₅ p₆ p₇ p₈ p₉ q₁ q₂ q₃ q₄ q₅ q₆ q₇ q₈ q₉ r₁ r₂ r₃ k) (lfEnv L a cd)) Q E s := by
  rw [eval_ListComp]
  refine wpAny_comprehension_free (use := none) rfl (fun _ => rfl) (lf_clos L a cd) rfl (by decide) ?_
  refine Call_ (gb_builtin (v := .type "enumerate") G st (by decide) (by decide +kernel) ?_ rfl (by rfl) rfl rfl)
  refine callWith_type1 (wpAny_mono (Calls.spliced_cons (wpAny_Name (wpAny_loadName_cell (c := L + 1) rfl (by rfl) (by rfl) hrow (Calls.spliced_nil ?_)))) (fun _ _ x => x) fun _ _ x => x)
  refine call_enumerate_list hl fun h₁ he hit hz hk => ?_
  generalize hE : s.heap.objs.size + 1 = e at he hz ⊢
  generalize hT : s.heap.objs.size = it at he hit hz ⊢
  refine wpAny_pyIter_enum he ?_
  refine wpAny_newObj_type (wpAny_newFunctionEnv (by decide) (by intro y hy; simp at hy) (fun h₃ hn₃ hs₃ => ?_) rfl)
  have hDn : (h₁.push { cls := .type "list", dict := none, data := .seq ([] : List Value).toArray }).get? h₁.objs.size = some { cls := .type "list", dict := none, data := .seq ([] : List Value).toArray } := Heap.get?_push_size _ rfl
  have hCz : (h₁.push { cls := .type "list", dict := none, data := .seq ([] : List Value).toArray }).objs.size = h₁.objs.size + 1 := Heap.size_push ..
  have upD : ∀ b o, h₁.get? b = some o → (h₁.push { cls := .type "list", dict := none, data := .seq ([] : List Value).toArray }).get? b = some o := fun b o q => Heap.get?_push_of_some _ q
  dsimp only at hn₃ hs₃ ⊢
  generalize h₁.push { cls := .type "list", dict := none, data := .seq ([] : List Value).toArray } = h₂ at hn₃ hs₃ hDn hCz upD ⊢
  generalize hCC : h₂.objs.size = C at hn₃ hs₃ hCz ⊢
  generalize hDD : h₁.objs.size = D at hDn hCz hz ⊢
  have up : ∀ b o, b ≠ C → h₂.get? b = some o → h₃.get? b = some o := fun b o hb q => hs₃.extBut b o hb (Heap.get?_push_of_some _ q)
  have none_ge : ∀ b, it ≤ b → s.heap.get? b = none := fun b hb => Heap.get?_none_of_le (hT ▸ hb)
  have eE : e = it + 1 := by rw [← hE, hT]
  have eD : D = it + 2 := hz
  have eC : C = it + 3 := by rw [hCz, eD]
  have F : FInv s.heap r e it C D f ns 0 h₃ := .of (up _ _ (by omega) (upD _ _ he)) (hit.at fun o q => up _ o (by show (it : Nat) ≠ C; omega) (upD _ _ q)) hn₃ (ys := []) (done := []) ⟨0, up _ _ (by omega) hDn⟩ .nil (Nat.le_refl _) rfl
    fun b o q => up b o (fun z => by rw [z, none_ge C (by omega)] at q; cases q) (upD _ _ (hk _ _ q))
  have loop : codeAny (model prog w) A (.compLoop (lfE p₁ p₂ p₃ p₄ p₅ p₆ p₇ p₈ p₉ q₁ q₂ q₃ q₄ q₅ q₆ q₇ q₈ q₉ r₁ r₂ r₃ k) 0 (.ref e) (.ref D) (lfComp C L a cd)) (compPost (model prog w) A E none Q (.ref D) C) { s with heap := h₃, toks := s.toks + ([] : List (Str × Value)).length } := by
    refine firsts_loop hh hroom W st hl hI hns hlen hrow hway (by show (e : Nat) ≠ it; omega) (by show (C : Nat) ≠ e; omega) (by show (C : Nat) ≠ it; omega) (by show (D : Nat) ≠ e; omega) (by show (D : Nat) ≠ it; omega) (by show (D : Nat) ≠ C; omega) (none_ge _ (by omega)) (none_ge _ (Nat.le_refl _)) (none_ge _ (by omega)) (none_ge _ (by omega)) (fun h' tk m ys hk' hn' hp' hI' => ?_) F
    refine ⟨m, hn', fun h'' hs'' => hQ D h'' tk ys (fun b o q => hs''.extBut b o (fun z => by rw [z, none_ge C (by omega)] at q; cases q) (hk' b o q)) (none_ge _ (by omega)) (hp'.extBut hs''.extBut (by show (D : Nat) ≠ C; omega)) hI'⟩
  obtain ⟨old, he₃⟩ := F.enum
  exact codeAny_compStart_list loop (wpAny_pyIter_enum he₃ loop)

theorem call_lf {r : Addr} {vs : List Value} {ns : List Int} {Q : Value → Shared → Prop} (F : LfAt hb) (hh : A.handled = none) (hroom : A.depth + 5 < recursionLimit) (W : WayAt prog w hb f wf) (G : GB hb mg mb) (st : hb.StaysIn s.heap)
    (hl : s.heap.IsList r vs.toArray) (hI : IntsAre vs ns) (hns : ∀ x ∈ ns, 0 ≤ x ∧ x < 12) (hlen : ns.length ≤ 60)
    (hQ : ∀ D h' tk ys, (∀ b o, s.heap.get? b = some o → h'.get? b = some o) → s.heap.get? D = none → h'.PlainList D (ys : List Value).toArray → IntsAre ys (firstsGo f [] ns) → Q (.ref D) { s with heap := h', toks := tk }) :
    wpAny (model prog w) A (call (.ref 64) [.ref r, .ref wf]) Q E s := by
  obtain ⟨o, pm, doc, ho, hdat⟩ := F.fn
  refine wpAny_call (call_cells_ret (binds := [("row", .ref r), ("way", .ref wf)]) (by omega) (st _ _ ho) hdat (G.nolimit.keeps st) (F.code.keeps st) (by rfl) (fun x hx => ?_) (fun h₁ tk FF X => ?_) (by rfl) (by rfl) (by rfl))
  · rcases List.mem_cons.mp hx with rfl | hx
    · exact .inr ⟨by rfl, by rfl⟩
    · rw [List.mem_singleton.mp hx]
      exact .inr ⟨by rfl, by rfl⟩
  · refine wpAny_execs_cons (wpAny_Return_some ?_)
    refine firsts_comp (A := A.deeper (lfEnv s.heap.objs.size 64 (.ref 63))) hh (by show A.depth + 1 + 3 < _; omega) W G (fun b o q => FF.keep b o (st b o q)) (hl.at fun o q => FF.keep _ o q) hI hns hlen (X.cell ("row" : Str) _ (by rfl)) (X.cell ("way" : Str) _ (by rfl)) fun D h' tk' ys hk hD hp hI' => ?_
    refine hQ D h' tk' ys (fun b o q => hk b o (FF.keep b o q)) ?_ hp hI'
    cases q : s.heap.get? D with
    | none => rfl
    | some o => rw [FF.keep _ _ q] at hD; cases hD
end
end
end Mine

namespace Mine
section
set_option maxRecDepth 100000
set_option linter.unusedVariables false
open PySem.Builtin

section
variable {prog : Program} {w : World} {A : Around} {E : Value → Shared → Prop} {s : Shared}

theorem special_list_item {it l : Addr} {i : Nat} {items : Array Value} {x : Value} {Q : Option Value → Shared → Prop} (hit : s.heap.IsListIter it l i)
    (hl : s.heap.IsList l items) (hx : items[i]? = some x)
    (hQ : ∀ h', h'.IsListIter it l (i + 1) → Heap.SameBut it s.heap h' → Q (some x) { s with heap := h' }) :
    wpAny (model prog w) A (callSpecial? (.ref it) "__next__") Q E s := by
  obtain ⟨o, ho, hc, hd⟩ := id hit
  obtain ⟨ol, hol, _, nl, hdl⟩ := hl
  refine wpAny_callSpecial?_slot (name := Str.ofString "__next__") hit.typeIs slot_listiter_next
    (wpAny_call_entry slot_listiter_next hit.typeIs entry_listiter_next ?_ (args_listiter_next _))
  show wpAny _ _ (field (.ref it) 0 >>= _) _ _ s
  refine wpAny_bind (wpAny_field ho hd (x := .ref l) rfl ?_)
  show wpAny _ _ (if (Value.ref l == Value.none) = true then _ else _) _ _ s
  rw [if_neg (show ¬ ((Value.ref l == Value.none) = true) from Bool.false_ne_true)]
  show wpAny _ _ (field (.ref it) 1 >>= _) _ _ s
  refine wpAny_bind (wpAny_field ho hd (x := .int i 0) rfl ?_)
  show wpAny _ _ (seqItems? (.ref l) >>= _) _ _ s
  refine wpAny_bind (wpAny_seqItems hol hdl ?_)
  simp only [Int.toNat_natCast, hx]
  refine wpAny_bind (wpAny_setField ho hd (by simp) (wpAny_pure ⟨x, rfl, hQ _ ?_ (Heap.SameBut.update ..)⟩))
  exact ⟨_, Heap.get?_update_self _ ho (Obj.isFreed_of_fields (Obj.data_mapFields hd _)), (Obj.cls_mapFields ..).trans hc, by
    rw [Obj.data_mapFields hd]; simp [rawInt]⟩

theorem special_list_end {it l : Addr} {i : Nat} {items : Array Value} {Q : Option Value → Shared → Prop} (hh : A.handled = none)
    (hit : s.heap.IsListIter it l i) (hl : s.heap.IsList l items) (hx : items[i]? = none)
    (hE : ∀ h₁ h' e, Heap.SameBut it s.heap h₁ → Heap.NewExc h₁ h' e "StopIteration" → E (.ref e) { s with heap := h' }) : wpAny (model prog w) A (callSpecial? (.ref it) "__next__") Q E s := by
  obtain ⟨o, ho, hc, hd⟩ := id hit
  obtain ⟨ol, hol, _, nl, hdl⟩ := hl
  refine wpAny_callSpecial?_slot (name := Str.ofString "__next__") hit.typeIs slot_listiter_next
    (wpAny_call_entry slot_listiter_next hit.typeIs entry_listiter_next ?_ (args_listiter_next _))
  show wpAny _ _ (field (.ref it) 0 >>= _) _ _ s
  refine wpAny_bind (wpAny_field ho hd (x := .ref l) rfl ?_)
  show wpAny _ _ (if (Value.ref l == Value.none) = true then _ else _) _ _ s
  rw [if_neg (show ¬ ((Value.ref l == Value.none) = true) from Bool.false_ne_true)]
  show wpAny _ _ (field (.ref it) 1 >>= _) _ _ s
  refine wpAny_bind (wpAny_field ho hd (x := .int i 0) rfl ?_)
  show wpAny _ _ (seqItems? (.ref l) >>= _) _ _ s
  refine wpAny_bind (wpAny_seqItems hol hdl ?_)
  simp only [Int.toNat_natCast, hx]
  refine wpAny_bind (wpAny_rule (wpAny_bind (wpAny_setField ho hd (by simp) ?_)))
  show wpAny _ _ (newExc (.type "StopIteration") [] >>= _) _ _ _
  refine wpAny_bind ?_
  simp only [newExc, newTuple]
  refine wpAny_bind (wpAny_newObj_type ?_ (by size_fits))
  refine wpAny_bind (m := firstArgMember _ _) (wpAny_of_eq (a := Value.none) (by first | rfl | (simp only [firstArgMember]; rfl)) ?_)
  refine wpAny_newObj_type ?_ (by size_fits)
  simp only [raiseNew]
  refine wpAny_bind (wpAny_handled ?_)
  rw [show A.in1.handled = none from hh]
  refine wpAny_bind (wpAny_pure (wpAny_throw ?_))
  refine hE _ _ _ (Heap.SameBut.update ..) ⟨fun b o q => Heap.get?_push_of_some _ (Heap.get?_push_of_some _ q), Heap.get?_none_of_le ?_, ⟨_, _, Heap.get?_push_size _ rfl, rfl, rfl⟩⟩
  rw [Heap.size_push]; exact Nat.le_succ _

theorem call_next {it : Addr} {T i : String} {Q : Value → Shared → Prop} (hT : s.TypeIs (.ref it) T) (hs : Slot T "__next__" i) (h : wpAny (model prog w) A.in1 (callSpecial? (.ref it) "__next__") (fun r s' => ∃ v, r = some v ∧ Q v s') E s) :
    wpAny (model prog w) A (call (.builtin "next") [.ref it]) Q E s := by
  refine PySem.Calls.call_function_entry (by decide +kernel) (by decide +kernel) kdk_entry_next (kdk_args_next _) ?_
  unfold Builtin.«next»
  refine wpAny_bind (m := someArgs "next" 1 2 _) (wpAny_of_eq (a := [Value.ref it]) (by first | rfl | kernel_rfl!) ?_)
  dsimp only
  refine wpAny_bind (wpAny_specialOf (name := Str.ofString "__next__") hT hs.lookup ?_)
  refine wpAny_ite_split (fun hab => absurd hab Bool.false_ne_true) (fun _ => ?_)
  refine wpAny_bind (wpAny_mono h (fun r s' hr => ?_) fun _ _ x => x)
  obtain ⟨v, rfl, hv⟩ := hr
  exact wpAny_pure ⟨_, rfl, hv⟩

theorem call_iter {l : Addr} {Q : Value → Shared → Prop} (h : wpAny (model prog w) A.in1 (pyIter (.ref l)) Q E s) : wpAny (model prog w) A (call (.builtin "iter") [.ref l]) Q E s := by
  refine PySem.Calls.call_function_entry (by decide +kernel) (by decide +kernel) kdk_entry_iter (kdk_args_iter _) ?_
  unfold Builtin.«iter»
  refine wpAny_bind (m := someArgs "iter" 1 2 _) (wpAny_of_eq (a := [Value.ref l]) (by first | rfl | kernel_rfl!) ?_)
  show wpAny _ _ (pyIter (.ref l) >>= _) _ _ _
  exact wpAny_bind (wpAny_mono h (fun v s' hv => wpAny_pure ⟨_, rfl, hv⟩) fun _ _ x => x)

/-- an exception leaves the frame `env` below the frames `outer` -/
theorem leaves_stop {env e₁ e₂ : Env} {F C L e : Addr} {h₁ : Heap} {mF mC mL : Str → Option Value} {Q : Unit → Shared → Prop} (hfr : A.frames = some [env, e₁, e₂]) (hF : env.frame = some F) (hC : e₁.frame = some C) (hL : e₂.frame = some L)
    (kF : env.scope.kind = .function) (kC : e₁.scope.kind = .function) (kL : e₂.scope.kind = .function) (nF : h₁.Ns F mF) (nC : h₁.Ns C mC) (nL : h₁.Ns L mL) (hx : Heap.NewExc h₁ s.heap e "StopIteration")
    (hQ : ∀ h', (∃ o, h'.get? e = some o ∧ o.cls = .type "StopIteration") → (∀ b o, b ≠ F → b ≠ C → b ≠ L → h₁.get? b = some o → h'.get? b = some o) → (∀ b m, h₁.Ns b m → h'.Ns b m) → Q () { s with heap := h' }) :
    wpAny (model prog w) A (leaving env (.ref e)) Q E s := by
  obtain ⟨ob, tp, he, hcls, hd⟩ := hx.there
  have up : ∀ b o, (hideAll h₁ [F, C, L]).get? b = some o → s.heap.get? b = some o := fun b o q => hx.keeps b o (of_hideAll _ q)
  have fF : s.heap.FunFrames (hideAll h₁ [F, C, L]) [env, e₁, e₂] :=
    .cons (by rw [kF]; decide) hF (nF.keeps hx.keeps) (hideAll_none _ (.head _)) (.cons (by rw [kC]; decide) hC (nC.keeps hx.keeps) (hideAll_none _ (.tail _ (.head _))) (.cons (by rw [kL]; decide) hL (nL.keeps hx.keeps) (hideAll_none _ (.tail _ (.tail _ (.head _)))) trivial))
  have en : (hideAll h₁ [F, C, L]).get? e = none := by
    cases q : (hideAll h₁ [F, C, L]).get? e with
    | none => rfl
    | some o => have := of_hideAll _ q; rw [hx.new] at this; cases this
  refine wpAny_leaving_first hfr fF hF he up en hd rfl fun h' hl => ?_
  obtain ⟨k1, k2, k3, k4⟩ := hl
  refine hQ h' ?_ (fun b o hbF hbC hbL q => k1 b o (hideAll_get _ q (by simp [hbF, hbC, hbL]))) fun b m q => ?_
  · obtain ⟨oe, _, _, _, _, ho, hc, _⟩ := k3
    exact ⟨oe, ho, hc.trans hcls⟩
  · exact Heap.UpToSlots.ns k4 (q.keeps hx.keeps)
end
end
end Mine

namespace Mine
section
set_option maxRecDepth 100000
set_option linter.unusedVariables false
open PySem.Builtin

abbrev ffFn (i : Nat) (name qual : Str) (doc pm ct cd : Value) (an : Option Addr) : FuncData := fnOf name qual (paramsOf (ffAt i)) (bodyOf (ffAt i)) (scopeOf (ffAt i)) .none .none doc pm an cd ct

structure FfSlot (K : Frag) (name : Str) (p : Addr) (i : Nat) : Prop where
  get : plainGet K 47 name = true
  find : findIn K (.ref 47) name = some (some (.ref p))
  dget : specialIn K (.ref p) "__get__" = some (some (.builtin "member_descriptor.__get__"))
  takes : takesIn K (.ref p) = some true
  slot : slotIn K p 47 = some i
  taker : takerIn K 47 name = some (some (.ref p))
  kind : typeIn K (.ref p) = some (.type "member_descriptor")

structure FfAt (K : Frag) (hb : Heap) : Prop where
  inn : K.In hb
  makes : makesIn K 47 = true
  init : findIn K (.ref 47) "__init__" = some (some (.ref 29))
  tinit : typeIn K (.ref 29) = some (.type "function")
  iter : findIn K (.ref 47) "__iter__" = some (some (.ref 36))
  fiter : isFn K (.ref 36) = true
  next : findIn K (.ref 47) "__next__" = some (some (.ref 43))
  fnext : isFn K (.ref 43) = true
  cls : isClsIn K 47 = true
  seta : findIn K (.ref 47) "__setattr__" = some (some (.builtin "object.__setattr__"))
  plain : plainOver K 47 = true
  keep : keepIn K (.ref 47) = true
  sfunc : FfSlot K "_func" 48 0
  sit : FfSlot K "_it" 49 1
  f29 : ∃ doc pm ct an, hb.get? 29 = some { cls := .type "function", data := .func (ffFn 1 "__init__" "filterfalse.__init__" doc pm ct (.ref 28) an) }
  c28 : hb.CodeRec (.ref 28) "filterfalse.__init__"
  f36 : ∃ doc pm ct an, hb.get? 36 = some { cls := .type "function", data := .func (ffFn 2 "__iter__" "filterfalse.__iter__" doc pm ct (.ref 35) an) }
  c35 : hb.CodeRec (.ref 35) "filterfalse.__iter__"
  f43 : ∃ doc pm ct an, hb.get? 43 = some { cls := .type "function", data := .func (ffFn 3 "__next__" "filterfalse.__next__" doc pm ct (.ref 42) an) }
  c42 : hb.CodeRec (.ref 42) "filterfalse.__next__"

abbrev ffObj (dx : Addr) (sl : Array (Option Value)) : Obj := { cls := .ref 47, dict := some dx, data := .plain, slots := sl }

theorem frag_stays {K : Frag} {hb h : Heap} (X : K.In hb) (st : hb.StaysIn h) : K.In h := fun b o e => st b o (X b o e)

theorem ffInst {h : Heap} {x dx : Addr} {sl : Array (Option Value)} (hx : h.get? x = some (ffObj dx sl)) (hd : h.get? dx = some emptyDict) : InstAt h x (ffObj dx sl) 47 (some emptyDict) := ⟨hx, rfl, rfl, hd⟩

section
variable {prog : Program} {w : World} {A : Around} {E : Value → Shared → Prop} {s : Shared} {hb : Heap} {K : Frag} {x dx L : Addr} {sl : Array (Option Value)} {m : Str → Option Value}

theorem ff_put {name : Str} {p i : Nat} {v : Value} {sl' : Array (Option Value)} {Q : Unit → Shared → Prop} (T : FfAt K hb) (S : FfSlot K name p i) (st : hb.StaysIn s.heap) (hx : s.heap.get? x = some (ffObj dx sl)) (hd : s.heap.get? dx = some emptyDict)
    (hn : s.heap.Ns L m) (hi : i < 1000) (e : (sl ++ Array.replicate (i + 1 - sl.size) none).setIfInBounds i (some v) = sl')
    (hQ : ∀ h', h'.Ns L m → h'.get? x = some (ffObj dx sl') → (∀ b o, b ≠ x → b ≠ L → s.heap.get? b = some o → h'.get? b = some o) → Q () { s with heap := h', toks := s.toks + 1 }) :
    wpAny (model prog w) A (setAttr (.ref x) name v) Q E s := by
  have X := frag_stays T.inn st
  have I := ffInst hx hd
  have hLx : x ≠ L := fun q => by
    obtain ⟨o, _, _, ho, hdd, _⟩ := hn
    rw [← q, hx] at ho
    cases ho
    cases hdd
  have F : Fr { s.heap with objs := #[] } L s.heap m := ⟨hn, fun b o q => by simp [Heap.get?] at q, Nat.zero_le _⟩
  have N : News { s.heap with objs := #[] } L s.heap ([] ++ (x, ffObj dx sl) :: (((List.range s.heap.objs.size).filterMap fun b => (s.heap.get? b).map fun o => (b, o)).filter fun q => decide (q.1 ≠ x ∧ q.1 ≠ L))) := fun q hq => by
    rcases List.mem_cons.mp hq with rfl | hq
    · exact ⟨hx, hLx, by simp [Heap.get?]⟩
    · obtain ⟨h1, h2⟩ := List.mem_filter.mp hq
      obtain ⟨b, hb', hbo⟩ := List.mem_filterMap.mp h1
      obtain ⟨o, ho, rfl⟩ := Option.map_eq_some_iff.mp hbo
      exact ⟨ho, (of_decide_eq_true h2).2, by simp [Heap.get?]⟩
  refine set_plain X I T.seta (osa_descr (s := { s with toks := s.toks + 1 }) KF.slot_mset X I T.plain S.taker S.kind (slot_set (ox' := ffObj dx sl') (s := { s with toks := s.toks + 1 }) F N X I S.slot hi (fun _ h => by simp at h) (fun q hq => (of_decide_eq_true (List.mem_filter.mp hq).2).1) (by rw [← e]) rfl fun h' F' N' => ?_))
  refine hQ h' F'.ns (N' _ (.head _)).1 fun b o hbx hbL q => (N' (b, o) (.tail _ (List.mem_filter.mpr ⟨List.mem_filterMap.mpr ⟨b, List.mem_range.mpr (Heap.lt_size q), by rw [q]; rfl⟩, decide_eq_true ⟨hbx, hbL⟩⟩))).1

theorem ff_get {name : Str} {p i : Nat} {v : Value} {expr : Bool} {Q : Value → Shared → Prop} (T : FfAt K hb) (S : FfSlot K name p i) (st : hb.StaysIn s.heap) (hx : s.heap.get? x = some (ffObj dx sl)) (hd : s.heap.get? dx = some emptyDict)
    (hv : (sl[i]?).join = some v) (hh : handedIn v = true) (h : Q v { s with toks := s.toks + 1 }) : wpAny (model prog w) A (getAttr (.ref x) name expr) Q E s := by
  have X := frag_stays T.inn st
  have I := ffInst hx hd
  exact get_bind X I (plainGet_of S.get).1 (findObj_data T.cls S.find S.dget S.takes) (plainGet_of S.get).2 (wpAny_call (slot_get (s := { s with toks := s.toks + 1 }) X I S.slot hv (handed_on hh h)))
end
end
end Mine

namespace Mine
section
set_option maxRecDepth 100000
set_option linter.unusedVariables false
open PySem.Builtin

section
variable {prog : Program} {w : World} {A : Around} {E : Value → Shared → Prop} {s : Shared} {hb : Heap} {mg mb : Str → Option Value} {K : Frag} {x dx L : Addr} {sl : Array (Option Value)} {m : Str → Option Value}

/-- what the generator walks: a list, or a fresh iterator over one -/
def Src (h : Heap) (r l : Addr) (items : Array Value) : Prop := (r = l ∧ h.IsList l items) ∨ (h.IsListIter r l 0 ∧ h.IsList l items)
theorem Src.keeps {h h' : Heap} {r l : Addr} {items : Array Value} (X : Src h r l items) (k : ∀ b o, h.get? b = some o → h'.get? b = some o) : Src h' r l items :=
  X.elim (fun q => .inl ⟨q.1, q.2.at fun o e => k _ o e⟩) fun q => .inr ⟨q.1.at fun o e => k _ o e, q.2.at fun o e => k _ o e⟩

theorem iter_src {r l : Addr} {items : Array Value} {Q : Value → Shared → Prop} (X : Src s.heap r l items)
    (hQ : ∀ It h', (∀ b o, s.heap.get? b = some o → h'.get? b = some o) → h'.IsListIter It l 0 → ((s.heap.get? It = none ∧ r = l) ∨ It = r) → Q (.ref It) { s with heap := h' }) : wpAny (model prog w) A (pyIter (.ref r)) Q E s := by
  rcases X with ⟨rfl, hl⟩ | ⟨hi, hl⟩
  · exact wpAny_pyIter_list hl (hQ _ _ (fun b o e => Heap.get?_push_of_some _ e) ⟨_, Heap.get?_push_size _ rfl, rfl, rfl⟩ (.inl ⟨Heap.get?_none_of_le (Nat.le_refl _), rfl⟩))
  · exact wpAny_pyIter_listiter hi (hQ _ _ (fun b o e => e) hi (.inr rfl))

abbrev ffEnv (i : Nat) (qual : Str) (F a : Addr) (cd : Value) : Env := envOf qual (scopeOf (ffAt i)) F a cd

theorem ff_make {r l Bt : Addr} {items : Array Value} {Q : Value → Shared → Prop} (T : FfAt K hb) (G : GB hb mg mb) (st : hb.StaysIn s.heap) (hroom : A.depth + 3 < recursionLimit) (X : Src s.heap r l items)
    (hQ : ∀ x dx It h' tk, (∀ b o, s.heap.get? b = some o → h'.get? b = some o) → s.heap.get? x = none → s.heap.get? dx = none → h'.get? x = some (ffObj dx #[some (.ref Bt), some (.ref It)]) → h'.get? dx = some emptyDict → h'.IsListIter It l 0 → ((s.heap.get? It = none ∧ r = l) ∨ It = r) →
      Q (.ref x) { s with heap := h', toks := tk }) :
    wpAny (model prog w) A (call (.ref 47) [.ref Bt, .ref r]) Q E s := by
  obtain ⟨H, g, d, t, os⟩ := s
  refine wpAny_call ?_
  refine make_core (makes_of (frag_stays T.inn st) T.makes) (looks_findIn (frag_stays T.inn st) T.init) (fun self => bind_fn (frag_stays T.inn st) self T.tinit) (.inl rfl) ?_
  have hx₁ : ((H.push emptyDict).push (instObj 47 H.objs.size)).get? (H.objs.size + 1) = some (ffObj H.objs.size #[]) := by heap_get
  have hd₁ : ((H.push emptyDict).push (instObj 47 H.objs.size)).get? H.objs.size = some emptyDict := by heap_get
  have up₁ : ∀ b o, H.get? b = some o → ((H.push emptyDict).push (instObj 47 H.objs.size)).get? b = some o := fun b o q => Heap.get?_push_of_some _ (Heap.get?_push_of_some _ q)
  have nx : H.get? (H.objs.size + 1) = none := Heap.get?_none_of_le (Nat.le_succ _)
  have nd : H.get? H.objs.size = none := Heap.get?_none_of_le (Nat.le_refl _)
  generalize (H.push emptyDict).push (instObj 47 H.objs.size) = H₁ at hx₁ hd₁ up₁ ⊢
  generalize hxx : H.objs.size + 1 = x at hx₁ nx ⊢
  generalize hdd : H.objs.size = dx at hx₁ hd₁ nd hxx ⊢
  obtain ⟨doc, pm, ct, an, hf⟩ := T.f29
  have st₁ : hb.StaysIn H₁ := fun b o q => up₁ _ _ (st b o q)
  refine codeAny_call_def (fd := ffFn 1 "__init__" "filterfalse.__init__" doc pm ct (.ref 28) an) (binds := [("self", .ref x), ("function", .ref Bt), ("iterable", .ref r)]) (by show A.depth + 1 < _; omega) (st₁ _ _ hf) rfl (G.nolimit.keeps st₁) (T.c28.keeps st₁) rfl (BindsTo.of_eq (by rfl)) (show ∀ x ∈ (scopeOf (ffAt 1)).names, x.2 ≠ .cell by decide) (locs (by rfl)) (fun h₂ hn₂ up₂ => ?_) (by rfl) (by rfl) (by rfl)
  have st₂ : hb.StaysIn h₂ := fun b o q => up₂ _ _ (st₁ b o q)
  have nF : H₁.get? H₁.objs.size = none := Heap.get?_none_of_le (Nat.le_refl _)
  dsimp only at hn₂ ⊢
  generalize H₁.objs.size = F at hn₂ nF ⊢
  have kp : ∀ b o, H.get? b = some o → b ≠ F := fun b o q z => by rw [z] at q; rw [up₁ _ _ q] at nF; cases nF
  have xF : x ≠ F := fun z => by rw [← z, hx₁] at nF; cases nF
  have dF : dx ≠ F := fun z => by rw [← z, hd₁] at nF; cases nF
  show wpAny _ _ (execs (bodyOf (ffAt 1)) (ffEnv 1 "filterfalse.__init__" F 29 (.ref 28))) _ _ _
  refine wpAny_execs_cons (plainObj_wpAny_Assign_Attribute ?_ (by rfl))
  refine Call_ (gb_builtin (v := .builtin "iter") G st₂ (by decide) (by decide +kernel) ?_ (by rfl) (by rfl) rfl rfl)
  refine callWith_builtin1 (wpAny_Name (wpAny_loadName_local (by rfl) (by rfl) hn₂ (v := .ref r) (by rfl) ?_))
  refine call_iter (iter_src ((X.keeps up₁).keeps up₂) fun It h₃ up₃ hi₃ hIt => ?_)
  have st₃ : hb.StaysIn h₃ := fun b o q => up₃ _ _ (st₂ b o q)
  refine wpAny_Name (wpAny_loadName_local (by rfl) (by rfl) (hn₂.keeps up₃) (v := .ref x) (by rfl) ?_)
  refine ff_put T T.sit st₃ (up₃ _ _ (up₂ _ _ hx₁)) (up₃ _ _ (up₂ _ _ hd₁)) (hn₂.keeps up₃) (by decide) (sl' := #[none, some (.ref It)]) (by rfl) fun h₄ hn₄ hx₄ up₄ => ?_
  have st₄ : hb.StaysIn h₄ := fun b o q => up₄ _ _ (fun z => by rw [z] at q; have := st _ _ q; rw [nx] at this; cases this) (kp _ _ (st _ _ q)) (st₃ b o q)
  have hd₄ : h₄.get? dx = some emptyDict := up₄ _ _ (fun z => by rw [z, hx₁] at hd₁; cases hd₁) dF (up₃ _ _ (up₂ _ _ hd₁))
  refine wpAny_execs_cons (plainObj_wpAny_Assign_Attribute (wpAny_Name (wpAny_loadName_local (by rfl) (by rfl) hn₄ (v := .ref Bt) (by rfl) ?_)) (by rfl))
  refine wpAny_Name (wpAny_loadName_local (by rfl) (by rfl) hn₄ (v := .ref x) (by rfl) ?_)
  refine ff_put T T.sfunc st₄ hx₄ hd₄ hn₄ (by decide) (sl' := #[some (.ref Bt), some (.ref It)]) (by rfl) fun h₅ hn₅ hx₅ up₅ => ?_
  refine wpAny_execs_nil ⟨rfl, ?_⟩
  have kx : ∀ b o, H.get? b = some o → b ≠ x := fun b o q z => by rw [z, nx] at q; cases q
  have xIt : It ≠ x := fun z => by
    obtain ⟨o, ho, hc, _⟩ := hi₃
    rw [z, up₃ _ _ (up₂ _ _ hx₁)] at ho
    cases ho; cases hc
  have FIt : It ≠ F := fun z => by
    obtain ⟨o, ho, hc, hdd⟩ := hi₃
    obtain ⟨o', _, _, ho', hd', _⟩ := hn₂.keeps up₃
    rw [z, ho'] at ho
    cases ho; rw [hd'] at hdd; cases hdd
  refine hQ x dx It h₅ _ (fun b o q => up₅ _ _ (kx _ _ q) (kp _ _ q) (up₄ _ _ (kx _ _ q) (kp _ _ q) (up₃ _ _ (up₂ _ _ (up₁ _ _ q))))) nx nd hx₅ (up₅ _ _ (fun z => by rw [z, hx₁] at hd₁; cases hd₁) dF hd₄) (hi₃.at fun o q => up₅ _ _ xIt FIt (up₄ _ _ xIt FIt q)) ?_
  refine hIt.imp (fun q => ⟨?_, q.2⟩) id
  obtain ⟨q, _⟩ := q
  cases z : H.get? It with
  | none => rfl
  | some o => rw [up₂ _ _ (up₁ _ _ z)] at q; cases q
end
end
end Mine

namespace Mine
section
set_option maxRecDepth 100000
set_option linter.unusedVariables false
open PySem.Builtin

section
variable {prog : Program} {w : World} {A : Around} {E : Value → Shared → Prop} {s : Shared} {hb : Heap} {mg mb : Str → Option Value} {K : Frag} {x dx L : Addr} {sl : Array (Option Value)} {m : Str → Option Value}

theorem own_iter {Q : Value → Shared → Prop} {C f g : Addr} {ox : Obj} {od : Option Obj} (X : K.In s.heap) (I : InstAt s.heap x ox C od) (hs : findIn K (.ref C) "__iter__" = some (some (.ref f))) (hf : isFn K (.ref f) = true) (hg : findIn K (.ref C) "__next__" = some (some (.ref g)))
    (h : wpAny (model prog w) A (call (.ref f) [.ref x]) (fun v s' => v = .ref x ∧ (∀ b o, s.heap.get? b = some o → s'.heap.get? b = some o) ∧ Q (.ref x) s') E s) : wpAny (model prog w) A (pyIter (.ref x)) Q E s := by
  have back : ∀ (v : Value) (s' : Shared), (v = .ref x ∧ (∀ b o, s.heap.get? b = some o → s'.heap.get? b = some o) ∧ Q (.ref x) s') → wpAny (model prog w) A (specialOf v "__next__") (fun r s₂ => r.isSome = true ∧ v = .ref x ∧ s₂ = s') E s' := fun v s' hv => by
    obtain ⟨rfl, up, hq⟩ := hv
    exact wpAny_bind ((I.type.keeps up).here (((looks_findIn X hg).keeps up).here ⟨rfl, rfl, rfl⟩))
  have bound : ∀ (Q' : Option Value → Shared → Prop) (refuse : Sem Value), (∀ s', ((∀ b o, s.heap.get? b = some o → s'.heap.get? b = some o) ∧ Q (.ref x) s') → Q' (some (.ref x)) s') → wpAny (model prog w) A (callSpecialIfBoundUnlessNone? (.ref x) "__iter__" refuse) Q' E s := by
    intro Q' refuse hQ'
    have run : wpAny (model prog w) A (if (Value.ref f == Value.none) = true then (refuse >>= fun v => pure (some v)) else (call (.ref f) [.ref x] >>= fun v => pure (some v))) Q' E s := by
      rw [if_neg (show ¬ ((Value.ref f == Value.none) = true) from Bool.false_ne_true)]
      exact wpAny_bind (wpAny_mono h (fun v s' hv => by obtain ⟨rfl, hv⟩ := hv; exact wpAny_pure (hQ' s' hv)) fun _ _ z => z)
    simp only [callSpecialIfBoundUnlessNone?, bindSpecialIfBound?]
    refine wpAny_holding (wpAny_bind (wpAny_bind (wpAny_bind (I.type.here ((looks_findIn X hs).here ?_)))))
    refine wpAny_bind (wpAny_askSetting (wpAny_ite ?_))
    split
    · exact wpAny_bind ((bind_fn X _ (beq_iff_eq.mp hf)).here (wpAny_pure (by exact run)))
    · exact wpAny_tryCatch (wpAny_bind ((bind_fn X _ (beq_iff_eq.mp hf)).here (wpAny_pure (by exact run))))
  unfold pyIter
  refine wpAny_bind (wpAny_bind (I.type.here ((looks_findIn X hs).here ?_)))
  show wpAny (model prog w) A (callSpecialIfBoundUnlessNone? (.ref x) "__iter__" _ >>= _) Q E s
  refine wpAny_bind (bound _ _ fun s' hv => ?_)
  refine wpAny_bind (wpAny_mono (back _ s' ⟨rfl, hv⟩) (fun r s₂ hr => ?_) fun _ _ z => z)
  obtain ⟨hr, _, rfl⟩ := hr
  cases r with
  | none => cases hr
  | some g => exact wpAny_pure hv.2

theorem ff_iter {Q : Value → Shared → Prop} (T : FfAt K hb) (st : hb.StaysIn s.heap) (hl : hb.NoLimit) (hroom : A.depth + 1 < recursionLimit) (hx : s.heap.get? x = some (ffObj dx sl)) (hd : s.heap.get? dx = some emptyDict)
    (hQ : ∀ h' tk, (∀ b o, s.heap.get? b = some o → h'.get? b = some o) → Q (.ref x) { s with heap := h', toks := tk }) : wpAny (model prog w) A (pyIter (.ref x)) Q E s := by
  refine own_iter (frag_stays T.inn st) (ffInst hx hd) T.iter T.fiter T.next (wpAny_call ?_)
  obtain ⟨doc, pm, ct, an, hf⟩ := T.f36
  refine codeAny_call_def (fd := ffFn 2 "__iter__" "filterfalse.__iter__" doc pm ct (.ref 35) an) (binds := [("self", .ref x)]) (by omega) (st _ _ hf) rfl (hl.keeps st) (T.c35.keeps st) rfl (BindsTo.of_eq (by rfl)) (show ∀ x ∈ (scopeOf (ffAt 2)).names, x.2 ≠ .cell by decide) (locs (by rfl)) (fun h₂ hn₂ up₂ => ?_) (by rfl) (by rfl) (by rfl)
  show wpAny _ _ (execs (bodyOf (ffAt 2)) (ffEnv 2 "filterfalse.__iter__" _ 36 (.ref 35))) _ _ _
  refine wpAny_execs_cons (wpAny_Return_some (wpAny_Name (wpAny_loadName_local (by rfl) (by rfl) hn₂ (v := .ref x) (by rfl) ?_)))
  exact ⟨rfl, up₂, hQ _ _ up₂⟩
end
end
end Mine

namespace Mine
section
set_option maxRecDepth 100000
set_option linter.unusedVariables false
open PySem.Builtin

/-- the first item that is not of `S`, and what is behind it -/
def pick (S : Int → Bool) : List Int → Option (Int × List Int)
  | [] => none
  | x :: r => if S x then pick S r else some (x, r)

theorem ns_ne_iter {h : Heap} {F It l : Addr} {i : Nat} {m : Str → Option Value} (hn : h.Ns F m) (hi : h.IsListIter It l i) : F ≠ It := fun z => by
  obtain ⟨o, ho, hc, hd⟩ := hi
  obtain ⟨o', _, _, ho', hd', _⟩ := hn
  rw [z, ho] at ho'
  cases ho'; rw [hd] at hd'; cases hd'

section
variable {prog : Program} {w : World} {A : Around} {E : Value → Shared → Prop} {s : Shared} {hb : Heap} {mg mb : Str → Option Value} {K : Frag} {x dx L : Addr} {sl : Array (Option Value)} {m : Str → Option Value}

/-- between two turns of the `while` -/
structure WInv (s : Shared) (It l F x Bt : Addr) (S : Int → Bool) (ns : List Int) (i j : Nat) (h : Heap) : Prop where
  pick : pick S (ns.drop j) = Mine.pick S (ns.drop i)
  ij : i ≤ j
  jl : j ≤ ns.length
  iter : h.IsListIter It l j
  nms : ∃ mm, h.Ns F mm ∧ mm "self" = some (.ref x) ∧ mm "func" = some (.ref Bt)
  keep : ∀ b o, b ≠ It → s.heap.get? b = some o → h.get? b = some o

theorem ff_next {e₁ e₂ : Env} {C Bt It Se l : Addr} {i n : Nat} {S : Int → Bool} {vs : List Value} {ns : List Int} {mC mL : Str → Option Value} {Q : Value → Shared → Prop} (T : FfAt K hb) (G : GB hb mg mb) (st : hb.StaysIn s.heap) (hh : A.handled = none) (hroom : A.depth + 2 < recursionLimit)
    (hfr : A.frames = some [e₁, e₂]) (hC : e₁.frame = some C) (hL : e₂.frame = some L) (kC : e₁.scope.kind = .function) (kL : e₂.scope.kind = .function) (nC : s.heap.Ns C mC) (nL : s.heap.Ns L mL)
    (hx : s.heap.get? x = some (ffObj dx #[some (.ref Bt), some (.ref It)])) (hd : s.heap.get? dx = some emptyDict) (hB : s.heap.get? Bt = some (boundB "set.__contains__" (.ref Se))) (hS : s.heap.SetOf (intKind prog w) Se S n)
    (hit : s.heap.IsListIter It l i) (hbI : hb.get? It = none) (hl : s.heap.IsList l vs.toArray) (hI : IntsAre vs ns) (hi : i ≤ ns.length)
    (hQ : ∀ v t rest j h' tk, Mine.pick S (ns.drop i) = some (v, rest) → i < j → j ≤ ns.length → ns.drop j = rest → ns[j - 1]? = some v → vs[j - 1]? = some (.int v t) → h'.IsListIter It l j → (∀ b o, b ≠ It → s.heap.get? b = some o → h'.get? b = some o) → Q (.int v t) { s with heap := h', toks := tk })
    (hE : Mine.pick S (ns.drop i) = none → ∀ h' tk e, (∃ o, h'.get? e = some o ∧ o.cls = .type "StopIteration") → (∀ b o, b ≠ It → b ≠ C → b ≠ L → s.heap.get? b = some o → h'.get? b = some o) → (∀ m, s.heap.Ns C m → h'.Ns C m) → (∀ m, s.heap.Ns L m → h'.Ns L m) → E (.ref e) { s with heap := h', toks := tk }) :
    wpAny (model prog w) A (call (.ref 43) [.ref x]) Q E s := by
  obtain ⟨doc, pm, ct, an, hf⟩ := T.f43
  have hCI := ns_ne_iter nC hit
  have hLI := ns_ne_iter nL hit
  have xI : x ≠ It := fun z => by obtain ⟨o, ho, hc, _⟩ := hit; rw [← z, hx] at ho; cases ho; cases hc
  have dI : dx ≠ It := fun z => by obtain ⟨o, ho, hc, _⟩ := hit; rw [← z, hd] at ho; cases ho; exact absurd (show Value.type "dict" = Value.type "list_iterator" from hc) (by decide)
  have BI : Bt ≠ It := fun z => by obtain ⟨o, ho, hc, _⟩ := hit; rw [← z, hB] at ho; cases ho; exact absurd (show Value.type "builtin_function_or_method" = Value.type "list_iterator" from hc) (by decide)
  have lI : l ≠ It := fun z => by obtain ⟨o, ho, hc, _⟩ := hit; obtain ⟨o', ho', hc', _⟩ := hl; rw [← z, ho'] at ho; cases ho; rw [hc'] at hc; exact absurd (show Value.type "list" = Value.type "list_iterator" from hc) (by decide)
  have SI : Se ≠ It := fun z => by obtain ⟨o, ho, hc, _⟩ := hit; obtain ⟨es, ep, tb, ho'⟩ := setOf_obj hS; rw [← z, ho'] at ho; cases ho; exact absurd (show Value.type "set" = Value.type "list_iterator" from hc) (by decide)
  refine wpAny_call ?_
  refine codeAny_call_def (fd := ffFn 3 "__next__" "filterfalse.__next__" doc pm ct (.ref 42) an) (binds := [("self", .ref x)]) (by omega) (st _ _ hf) rfl (G.nolimit.keeps st) (T.c42.keeps st) rfl (BindsTo.of_eq (by rfl)) (show ∀ x ∈ (scopeOf (ffAt 3)).names, x.2 ≠ .cell by decide) (locs (by rfl)) (fun h₂ hn₂ up₂ => ?_) (by rfl) (by rfl) (by rfl)
  have st₂ : hb.StaysIn h₂ := fun b o q => up₂ _ _ (st b o q)
  have nF : s.heap.get? s.heap.objs.size = none := Heap.get?_none_of_le (Nat.le_refl _)
  dsimp only at hn₂ ⊢
  generalize s.heap.objs.size = F at hn₂ nF ⊢
  have kp : ∀ b o, s.heap.get? b = some o → b ≠ F := fun b o q z => by rw [z, nF] at q; cases q
  show wpAny _ _ (execs (bodyOf (ffAt 3)) (ffEnv 3 "filterfalse.__next__" F 43 (.ref 42))) _ _ _
  refine wpAny_execs_cons (wpAny_Assign_Name (Attribute_name (wpAny_Name (wpAny_loadName_local (by rfl) (by rfl) hn₂ (v := .ref x) (by rfl) ?_))))
  refine ff_get T T.sfunc st₂ (up₂ _ _ hx) (up₂ _ _ hd) (v := .ref Bt) (by rfl) (by rfl) ?_
  refine wpAny_storeName_local (by rfl) hn₂ (fun h₃ hn₃ hs₃ => ?_) (by rfl)
  have up₃ : ∀ b o, s.heap.get? b = some o → h₃.get? b = some o := fun b o q => hs₃.extBut _ _ (kp _ _ q) (up₂ _ _ q)
  refine wpAny_execs_cons (wpAny_While (codeAny_whileLoop (fun k s' => ∃ j h tk, s' = { s with heap := h, toks := tk } ∧ k = ns.length + 1 - j ∧ WInv s It l F x Bt S ns i j h) ?_ (ns.length + 1 - i)
    ⟨i, h₃, _, rfl, rfl, ⟨rfl, Nat.le_refl _, hi, hit.at fun o q => up₃ _ o q, ⟨_, hn₃, by rw [if_neg (by decide)]; rfl, by rw [if_pos rfl]⟩, fun b o _ q => up₃ _ _ q⟩⟩))
  rintro k s' ⟨j, h, tk, rfl, rfl, W⟩
  obtain ⟨mm, hn, ms, mf⟩ := W.nms
  have st' : hb.StaysIn h := fun b o q => W.keep b o (fun z => by rw [z, hbI] at q; cases q) (st b o q)
  refine wpAny_passesOwn (by passes_own) ?_
  refine isTrue_plain (wpAny_Constant_bool (wpAny_truthy_bool ?_))
  show wpAny _ _ (execs _ (ffEnv 3 "filterfalse.__next__" F 43 (.ref 42))) _ _ _
  refine wpAny_passesOwn (by passes_own) ?_
  have hx' := W.keep _ _ xI hx
  have hd' := W.keep _ _ dI hd
  have hB' := W.keep _ _ BI hB
  have hl' : h.IsList l vs.toArray := hl.at fun o q => W.keep _ _ lI q
  have hS' : h.SetOf (intKind prog w) Se S n := by obtain ⟨o, es, ep, t, ho, z⟩ := hS; exact ⟨o, es, ep, t, W.keep _ _ SI ho, z⟩
  refine wpAny_execs_cons (wpAny_Assign_Name (Call_ (gb_builtin (v := .builtin "next") G st' (by decide) (by decide +kernel) ?_ (by rfl) (by rfl) rfl rfl)))
  refine callWith_builtin1 (Attribute_name (wpAny_Name (wpAny_loadName_local (by rfl) (by rfl) hn ms ?_)))
  refine ff_get T T.sit st' hx' hd' (v := .ref It) (by rfl) (by rfl) ?_
  refine call_next W.iter.typeIs slot_listiter_next ?_
  by_cases hlt : j < ns.length
  · obtain ⟨tx, hvx⟩ := hI.get j _ (List.getElem?_eq_getElem hlt)
    have hsp : ns.drop j = ns[j] :: ns.drop (j + 1) := List.drop_eq_getElem_cons hlt
    have hnj : ns[j]? = some ns[j] := List.getElem?_eq_getElem hlt
    generalize ns[j] = y at *
    refine special_list_item W.iter hl' (by rw [List.getElem?_toArray]; exact hvx) fun h₄ hi₄ hs₄ => ⟨_, rfl, ?_⟩
    refine wpAny_storeName_local (by rfl) (hn.sameBut hs₄ (ns_ne_iter hn W.iter)) (fun h₅ hn₅ hs₅ => ?_) (by rfl)
    have k₅ : ∀ b o, b ≠ It → s.heap.get? b = some o → h₅.get? b = some o := fun b o hb q => hs₅.extBut _ _ (kp _ _ q) (hs₄.extBut _ _ hb (W.keep _ _ hb q))
    have st₅ : hb.StaysIn h₅ := fun b o q => k₅ b o (fun z => by rw [z, hbI] at q; cases q) (st b o q)
    have hi₅ : h₅.IsListIter It l (j + 1) := hi₄.extBut hs₅.extBut (Ne.symm (ns_ne_iter hn W.iter))
    have hS₅ : h₅.SetOf (intKind prog w) Se S n := by obtain ⟨o, es, ep, t, ho, z⟩ := hS; exact ⟨o, es, ep, t, k₅ _ _ SI ho, z⟩
    have lf : (fun y_1 => if y_1 = ("item" : Str) then some (Value.int y tx) else mm y_1) "func" = some (.ref Bt) := by show (if _ then _ else _) = _; rw [if_neg (by decide)]; exact mf
    have ls : (fun y_1 => if y_1 = ("item" : Str) then some (Value.int y tx) else mm y_1) "self" = some (.ref x) := by show (if _ then _ else _) = _; rw [if_neg (by decide)]; exact ms
    have li : (fun y_1 => if y_1 = ("item" : Str) then some (Value.int y tx) else mm y_1) "item" = some (.int y tx) := by show (if _ then _ else _) = _; rw [if_pos rfl]
    refine wpAny_execs_cons (wpAny_If (isTrue_or (wpAny_isTrue_Compare1 (wpAny_Name (wpAny_loadName_local (by rfl) (by rfl) hn₅ lf (wpAny_pure (is_ref_none (wpAny_truthy_bool ?_))))))))
    refine isTrue_or (wpAny_isTrue_Compare1 (wpAny_Name (wpAny_loadName_local (by rfl) (by rfl) hn₅ lf (gb_builtin (v := .type "bool") G st₅ (by decide) (by decide +kernel) (wpAny_is_other (by rfl) (by simp) (wpAny_truthy_bool ?_)) (by rfl) (by rfl) rfl rfl))))
    refine isTrue_or_nil ?_
    show wpAny _ _ (execs _ (ffEnv 3 "filterfalse.__next__" F 43 (.ref 42))) _ _ _
    refine wpAny_execs_cons (wpAny_If (isTrue_not (isTrue_plain (Call_ (wpAny_Name (wpAny_loadName_local (by rfl) (by rfl) hn₅ lf ?_))))))
    refine callWith_bound1 (id := "set.__contains__") (self := .ref Se) (wpAny_Name (wpAny_loadName_local (by rfl) (by rfl) hn₅ li ⟨k₅ _ _ BI hB, ?_⟩))
    refine call_bound_contains (k₅ _ _ BI hB) hS₅ (wpAny_truthy_bool ?_)
    cases hSy : S y with
    | true =>
      show wpAny _ _ (execs [] _) _ _ _
      refine wpAny_execs_nil (wpAny_execs_nil (wpAny_execs_nil ⟨ns.length + 1 - (j + 1), by omega, j + 1, h₅, _, rfl, rfl, ⟨?_, by have := W.ij; omega, hlt, hi₅, ⟨_, hn₅, ls, lf⟩, k₅⟩⟩))
      rw [← W.pick, hsp]; simp only [Mine.pick, hSy, if_true]
    | false =>
      show wpAny _ _ (execs [_] _) _ _ _
      refine wpAny_execs_cons (wpAny_Return_some (wpAny_Name (wpAny_loadName_local (by rfl) (by rfl) hn₅ li ?_)))
      refine hQ y tx (ns.drop (j + 1)) (j + 1) h₅ _ ?_ (by have := W.ij; omega) hlt rfl (by rw [Nat.add_sub_cancel]; exact hnj) (by rw [Nat.add_sub_cancel]; exact hvx) hi₅ k₅
      rw [← W.pick, hsp]; simp only [Mine.pick, hSy, Bool.false_eq_true, if_false]
  · have hjn : j = ns.length := by have := W.jl; omega
    refine special_list_end hh W.iter hl' (by rw [List.getElem?_toArray]; exact List.getElem?_eq_none (by rw [hI.length]; omega)) fun h₁ h' e hs₁ hx₁ => ?_
    refine leaves_stop (F := F) (C := C) (L := L) (h₁ := h₁) (by show A.frames.map _ = _; rw [hfr]; rfl) rfl hC hL rfl kC kL (hn.sameBut hs₁ (ns_ne_iter hn W.iter)) ((nC.at' fun o q => W.keep _ _ hCI q).sameBut hs₁ hCI) ((nL.at' fun o q => W.keep _ _ hLI q).sameBut hs₁ hLI) hx₁ fun h'' he'' k'' kn'' => ?_
    refine hE ?_ h'' _ e he'' (fun b o hbI hbC hbL q => k'' b o (kp _ _ q) hbC hbL (hs₁.extBut _ _ hbI (W.keep _ _ hbI q))) (fun m q => kn'' _ _ ((q.at' fun o q => W.keep _ _ hCI q).sameBut hs₁ hCI)) (fun m q => kn'' _ _ ((q.at' fun o q => W.keep _ _ hLI q).sameBut hs₁ hLI))
    rw [← W.pick, hjn, List.drop_length]; rfl
end
end
end Mine

namespace Mine
section
set_option maxRecDepth 100000
set_option linter.unusedVariables false
open PySem.Builtin

abbrev idf : Int → Int := fun v => v

theorem uniq_pick_none {S : Int → Bool} : ∀ {xs : List Int}, pick S xs = none → uniq idf S xs = []
  | [], _ => rfl
  | x :: r, h => by
    cases hS : S x with
    | true =>
      simp only [pick, hS, if_true] at h
      simp only [uniq, hS, if_true]; exact uniq_pick_none h
    | false => simp [pick, hS] at h
theorem uniq_pick_some {S : Int → Bool} {v : Int} {rest : List Int} : ∀ {xs : List Int}, pick S xs = some (v, rest) → S v = false ∧ uniq idf S xs = v :: uniq idf (fun k => S k || decide (k = v)) rest
  | [], h => by cases h
  | x :: r, h => by
    cases hS : S x with
    | true =>
      simp only [pick, hS, if_true] at h
      simp only [uniq, hS, if_true]; exact uniq_pick_some h
    | false =>
      simp only [pick, hS, Bool.false_eq_true, if_false, Option.some.injEq, Prod.mk.injEq] at h
      obtain ⟨rfl, rfl⟩ := h
      exact ⟨hS, by simp only [uniq, hS, Bool.false_eq_true, if_false]⟩

/-- the places behind the items that the generator keeps -/
def stops : (Int → Bool) → Nat → List Int → List Nat
  | _, _, [] => []
  | S, i, x :: r => if S x then stops S (i + 1) r else (i + 1) :: stops (fun k => S k || decide (k = x)) (i + 1) r
theorem stops_pick {S : Int → Bool} {v : Int} {rest : List Int} : ∀ {xs : List Int} {i : Nat}, pick S xs = some (v, rest) → stops S i xs = (i + xs.length - rest.length) :: stops (fun k => S k || decide (k = v)) (i + xs.length - rest.length) rest
  | [], _, h => by cases h
  | x :: r, i, h => by
    cases hS : S x with
    | true =>
      simp only [pick, hS, if_true] at h
      simp only [stops, hS, if_true]
      rw [stops_pick h, show i + 1 + r.length - rest.length = i + (x :: r).length - rest.length by rw [List.length_cons]; omega]
    | false =>
      simp only [pick, hS, Bool.false_eq_true, if_false, Option.some.injEq, Prod.mk.injEq] at h
      obtain ⟨rfl, rfl⟩ := h
      have e : i + (x :: r).length - r.length = i + 1 := by rw [List.length_cons]; omega
      rw [e]
      simp only [stops, hS, Bool.false_eq_true, if_false]
theorem stops_length : ∀ (xs : List Int) (S : Int → Bool) (i : Nat), (stops S i xs).length = (uniq idf S xs).length
  | [], _, _ => rfl
  | x :: r, S, i => by
    cases hS : S x with
    | true => simp only [stops, uniq, hS, if_true]; exact stops_length r S (i + 1)
    | false => simp only [stops, uniq, hS, Bool.false_eq_true, if_false, List.length_cons]; rw [stops_length r _ (i + 1)]

/-- the generator between its turns, without a key -/
structure NInv (prog : Program) (w : World) (hb : Heap) (C L l It Se Mt Bt x dx : Addr) (i : Nat) (S : Int → Bool) (n : Nat) (m : Str → Option Value) (h : Heap) : Prop where
  stay : hb.StaysIn h
  ns : h.Ns C m
  nL : ∃ mL, h.Ns L mL
  iter : h.IsListIter It l i
  set : h.SetOf (intKind prog w) Se S n
  meth : h.get? Mt = some (boundB "set.add" (.ref Se))
  con : h.get? Bt = some (boundB "set.__contains__" (.ref Se))
  inst : h.get? x = some (ffObj dx #[some (.ref Bt), some (.ref It)])
  dict : h.get? dx = some emptyDict
  add : m "seen_add" = some (.ref Mt)

structure NOwn (hb st : Heap) (wr fr mine : Addr → Prop) (C L It Se Mt Bt x dx : Addr) : Prop where
  bC : hb.get? C = none
  bI : hb.get? It = none
  bS : hb.get? Se = none
  bL : hb.get? L = none
  wC : wr C
  wL : wr L
  wI : wr It ∨ st.get? It = none
  sS : st.get? Se = none
  mC : ¬ mine C
  mI : ¬ mine It
  mS : ¬ mine Se
  mM : ¬ mine Mt
  mB : ¬ mine Bt
  mx : ¬ mine x
  md : ¬ mine dx
  mb : ∀ b, mine b → hb.get? b = none
  fC : ¬ fr C
  fI : ¬ fr It
  fS : ¬ fr Se
  CL : C ≠ L
  CI : C ≠ It
  CS : C ≠ Se
  CM : C ≠ Mt
  CB : C ≠ Bt
  Cx : C ≠ x
  Cd : C ≠ dx
  LI : L ≠ It
  LS : L ≠ Se
  IS : It ≠ Se
  IM : It ≠ Mt
  IB : It ≠ Bt
  Ix : It ≠ x
  Id : It ≠ dx
  SM : Se ≠ Mt
  SB : Se ≠ Bt
  Sx : Se ≠ x
  Sd : Se ≠ dx

theorem setOf_at {prog : Program} {w : World} {h h' : Heap} {a : Addr} {S : Int → Bool} {n : Nat} (X : h.SetOf (intKind prog w) a S n) (k : ∀ o, h.get? a = some o → h'.get? a = some o) : h'.SetOf (intKind prog w) a S n := by
  obtain ⟨o, es, ep, t, ho, z⟩ := X; exact ⟨o, es, ep, t, k _ ho, z⟩

section
variable {prog : Program} {w : World} {hb st : Heap} {wr fr mine : Addr → Prop} {C L l It Se Mt Bt x dx : Addr} {i n : Nat} {S : Int → Bool} {m : Str → Option Value} {h h' : Heap}

theorem NInv.fw (X : NInv prog w hb C L l It Se Mt Bt x dx i S n m h) (O : NOwn hb st wr fr mine C L It Se Mt Bt x dx) (k : Fw mine h h') : NInv prog w hb C L l It Se Mt Bt x dx i S n m h' where
  stay := fun b o e => k.1 b o (fun q => by rw [O.mb b q] at e; cases e) (X.stay b o e)
  ns := X.ns.at' fun o e => k.1 _ o O.mC e
  nL := k.2.2 _ X.nL
  iter := X.iter.at fun o e => k.1 _ o O.mI e
  set := setOf_at X.set fun o e => k.1 _ o O.mS e
  meth := k.1 _ _ O.mM X.meth
  con := k.1 _ _ O.mB X.con
  inst := k.1 _ _ O.mx X.inst
  dict := k.1 _ _ O.md X.dict
  add := X.add
theorem NInv.ext (X : NInv prog w hb C L l It Se Mt Bt x dx i S n m h) (k : ∀ b o, h.get? b = some o → h'.get? b = some o) : NInv prog w hb C L l It Se Mt Bt x dx i S n m h' where
  stay := fun b o e => k b o (X.stay b o e)
  ns := X.ns.keeps k
  nL := let ⟨mL, q⟩ := X.nL; ⟨mL, q.keeps k⟩
  iter := X.iter.at fun o e => k _ o e
  set := setOf_at X.set fun o e => k _ o e
  meth := k _ _ X.meth
  con := k _ _ X.con
  inst := k _ _ X.inst
  dict := k _ _ X.dict
  add := X.add
theorem NInv.store (X : NInv prog w hb C L l It Se Mt Bt x dx i S n m h) (O : NOwn hb st wr fr mine C L It Se Mt Bt x dx) {y : Str} {v : Value} (hx : y ≠ "seen_add")
    (hn : h'.Ns C (fun z => if z = y then some v else m z)) (k : Heap.SameBut C h h') : NInv prog w hb C L l It Se Mt Bt x dx i S n (fun z => if z = y then some v else m z) h' where
  stay := fun b o e => k.extBut b o (fun q => by rw [q, O.bC] at e; cases e) (X.stay b o e)
  ns := hn
  nL := let ⟨mL, q⟩ := X.nL; ⟨mL, q.sameBut k O.CL.symm⟩
  iter := X.iter.extBut k.extBut O.CI.symm
  set := setOf_at X.set fun o e => k.extBut _ o O.CS.symm e
  meth := k.extBut _ _ O.CM.symm X.meth
  con := k.extBut _ _ O.CB.symm X.con
  inst := k.extBut _ _ O.Cx.symm X.inst
  dict := k.extBut _ _ O.Cd.symm X.dict
  add := by rw [if_neg (Ne.symm hx)]; exact X.add
theorem NInv.next (X : NInv prog w hb C L l It Se Mt Bt x dx i S n m h) (O : NOwn hb st wr fr mine C L It Se Mt Bt x dx) {j : Nat} (hi : h'.IsListIter It l j) (k : ∀ b o, b ≠ It → h.get? b = some o → h'.get? b = some o) : NInv prog w hb C L l It Se Mt Bt x dx j S n m h' where
  stay := fun b o e => k b o (fun q => by rw [q, O.bI] at e; cases e) (X.stay b o e)
  ns := X.ns.at' fun o e => k _ o O.CI e
  nL := let ⟨mL, q⟩ := X.nL; ⟨mL, q.at' fun o e => k _ o O.LI e⟩
  iter := hi
  set := setOf_at X.set fun o e => k _ o O.IS.symm e
  meth := k _ _ O.IM.symm X.meth
  con := k _ _ O.IB.symm X.con
  inst := k _ _ O.Ix.symm X.inst
  dict := k _ _ O.Id.symm X.dict
  add := X.add
theorem NInv.grow (X : NInv prog w hb C L l It Se Mt Bt x dx i S n m h) (O : NOwn hb st wr fr mine C L It Se Mt Bt x dx) {S' : Int → Bool} {n' : Nat} (hs : h'.SetOf (intKind prog w) Se S' n') (k : Heap.SameBut Se h h') : NInv prog w hb C L l It Se Mt Bt x dx i S' n' m h' where
  stay := fun b o e => k.extBut b o (fun q => by rw [q, O.bS] at e; cases e) (X.stay b o e)
  ns := X.ns.sameBut k O.CS
  nL := let ⟨mL, q⟩ := X.nL; ⟨mL, q.sameBut k O.LS⟩
  iter := X.iter.extBut k.extBut O.IS
  set := hs
  meth := k.extBut _ _ O.SM.symm X.meth
  con := k.extBut _ _ O.SB.symm X.con
  inst := k.extBut _ _ O.Sx.symm X.inst
  dict := k.extBut _ _ O.Sd.symm X.dict
  add := X.add
end

abbrev noneCode (x C a : Addr) (cd : Value) : Code := .forLoop (.Name "element" (forPx noneFor)) (.ref x) (forBody noneFor) [] (ueEnv C a cd)

section
variable {prog : Program} {w : World} {A : Around} {E : Value → Shared → Prop} {s : Shared} {hb : Heap} {mg mb : Str → Option Value} {K : Frag} {x dx : Addr} {sl : Array (Option Value)}
theorem own_next {Q : Option Value → Shared → Prop} (T : FfAt K hb) (st : hb.StaysIn s.heap) (hx : s.heap.get? x = some (ffObj dx sl)) (hd : s.heap.get? dx = some emptyDict)
    (h : wpAny (model prog w) A (call (.ref 43) [.ref x]) (fun v s' => Q (some v) s') (fun e s' => ∃ a, e = .ref a ∧ (∃ o, s'.heap.get? a = some o ∧ o.cls = .type "StopIteration") ∧ Q none s') s) : wpAny (model prog w) A (pyNext (.ref x)) Q E s := by
  unfold pyNext
  refine wpAny_bind (wpAny_attempt (special_fn (name := "__next__") (args := []) (frag_stays T.inn st) (ffInst hx hd) T.next (beq_iff_eq.mp T.fnext) (wpAny_mono h (fun v s' hq => wpAny_pure hq) fun e s' he => ?_)))
  obtain ⟨a, rfl, ho, hq⟩ := he
  exact wpAny_bind (wpAny_isInstance (T := "StopIteration") (b := true) ho isSubtype_stop (wpAny_pure hq))
end

theorem none_frames {A : Around} {e₂ e₁ : Env} {k : Result → Sem Fin} {gd : Bool} {lv : List Value} {b₁ : List Stmt} {p : Pos} {t : Expr} {it : Value} {b o : List Stmt} {env : Env} (h : A.frames = some [e₂]) :
    (A.over (.forLoop t it b o env) [.ret k none gd lv (.func b₁ e₁) p []]).frames = some [e₁, e₂] := by
  unfold Around.over
  dsimp only
  rw [h]
  rfl
end
end Mine

namespace Mine
section
set_option maxRecDepth 100000
set_option linter.unusedVariables false
open PySem.Builtin

section
variable {prog : Program} {w : World} {A : Around} {hb st : Heap} {mg mb : Str → Option Value} {K : Frag} {wr fr mine : Addr → Prop} {C L l It Se Mt Bt x dx a : Addr} {cd : Value} {us ns : List Int} {full : Prop} {vs : List Value} {lenv : Env} {zz : Nat → Heap → Prop} {js : List Nat}

theorem none_turn {k : Result → Sem Fin} {gd0 : Bool} {lv0 : List Value} {b₁ : List Stmt} {p₁ : Pos} {fs : List Frame}
    (hfs : fs = [.ret k none gd0 lv0 (.func b₁ (ueEnv C a cd)) p₁ []]) (hg0 : gd0 = false) (hk : k (.ok .next) = leafOf (.ok (.ret .none)))
    (hh : A.handled = none) (hroom₀ : A.depth + 5 < recursionLimit) (hfr : A.frames = some [lenv]) (hL : lenv.frame = some L) (kL : lenv.scope.kind = .function)
    (T : FfAt K hb) (G : GB hb mg mb) (O : NOwn hb st wr fr mine C L It Se Mt Bt x dx) (hl : hb.IsList l vs.toArray) (hI : IntsAre vs ns) (hlen : ns.length ≤ 60)
    (hzz : ∀ N j h, js[js.length - 1 - N]? = some j → h.IsListIter It l j → zz N h) :
    ∀ (q i : Nat) (S : Int → Bool) (n N : Nat) (s₀ s : Shared) (m : Str → Option Value), ns.length - i ≤ q → i ≤ ns.length → n ≤ i → NInv prog w hb C L l It Se Mt Bt x dx i S n m s.heap → Sn st wr fr s₀ s →
      N ≤ (uniq idf S (ns.drop i)).length → (full → N = (uniq idf S (ns.drop i)).length) → (N = 0 → full) → N ≤ us.length → us.drop (us.length - N) = (uniq idf S (ns.drop i)).take N → N ≤ js.length → js.drop (js.length - N) = (stops S i (ns.drop i)).take N →
      Seg (model prog w) A (Rp st wr fr) (Yp st wr fr mine us full zz) N s₀ (noneCode x C a cd) ((model prog w).den (noneCode x C a cd)) fs s := by
  have hh' : (A.over (noneCode x C a cd) fs).handled = none := by rw [hfs]; exact hh
  have hroom : (A.over (noneCode x C a cd) fs).depth + 3 < recursionLimit := by rw [hfs, over_depth]; omega
  have hfr' : (A.over (noneCode x C a cd) fs).frames = some [ueEnv C a cd, lenv] := by rw [hfs]; exact none_frames hfr
  intro q
  induction q with
  | zero | succ q ih =>
    intro i S n N s₀ s m hq hi hn X hs hN hfN hz hNu hus hNj hjs
    obtain ⟨mL, hnL⟩ := X.nL
    refine seg_forLoop (own_next T X.stay X.inst X.dict ?_)
    refine ff_next (e₁ := ueEnv C a cd) (e₂ := lenv) (C := C) (L := L) T G X.stay hh' (Nat.lt_of_succ_lt hroom) hfr' rfl hL rfl kL X.ns hnL X.inst X.dict X.con X.set X.iter O.bI (hl.at fun o e => X.stay _ o e) hI hi (fun v t rest j h₁ tk₁ hp hij hj hr hv hvt hi₁ hk₁ => ?_) fun hp h₁ tk₁ e ho hk₁ hC₁ hL₁ => ⟨e, rfl, ho, ?_⟩
    · first
        | (exfalso; omega)
        | (obtain ⟨hSv, hu⟩ := uniq_pick_some hp
           have hst := stops_pick (i := i) hp
           rw [show i + (ns.drop i).length - rest.length = j by rw [← hr, List.length_drop, List.length_drop]; omega] at hst
           rw [hu] at hN hfN hus
           rw [hst] at hjs
           have X₁ := X.next O hi₁ hk₁
           have hs₁ : Sn st wr fr s₀ { s with heap := h₁, toks := tk₁ } := hs.trans (sn_but O.wI O.fI hk₁)
           refine ue_st X₁.ns fun h₂ hn₂ hs₂ => ?_
           have X₂ := X₁.store (y := "element") O (by decide) hn₂ hs₂
           have hs₂' : Sn st wr fr s₀ { s with heap := h₂, toks := tk₁ + 1 } := hs₁.trans (sn_but (.inl O.wC) O.fC hs₂.extBut)
           refine seg_execs_cons (seg_plain ?_)
           refine wpAny_Expr (Call_ (ue_ld hn₂ (v := .ref Mt) X₂.add (callWith_bound1 (id := "set.add") (self := .ref Se) (ue_ld hn₂ (v := .int v t) (by show (if _ then _ else _) = _; rw [if_pos rfl]) ⟨X₂.meth, ?_⟩))))
           refine call_bound_add X₂.meth X₂.set (by have : scanBound = 4096 := rfl; omega) fun h₃ hs₃ hS₃ => ?_
           have X₃ := X₂.grow O hS₃ hs₃
           rw [hSv] at X₃
           have hs₃' := hs₂'.trans (sn_but (tk := tk₁ + 1 + 1) (.inr O.sS) O.fS hs₃.extBut)
           cases N with
           | zero =>
             have := hfN (hz rfl)
             rw [List.length_cons] at this
             exact absurd this (by omega)
           | succ N =>
           refine seg_execs_cons (seg_Expr_Yield (by rw [hfs]; rfl) rfl (by rw [hfs]; simp [Frame.guarded, hg0]) ?_)
           refine ue_ld X₃.ns (v := .int v t) (by show (if _ then _ else _) = _; rw [if_pos rfl]) fun kap hkap => ?_
           rw [List.take_succ_cons] at hus hjs
           refine ⟨⟨v, t, by rw [show us.length - 1 - N = us.length - (N + 1) by omega, ← List.head?_drop, hus]; rfl, rfl, hzz N j _ (by rw [show js.length - 1 - N = js.length - (N + 1) by omega, ← List.head?_drop, hjs]; rfl) X₃.iter⟩, hs₃', fun hf0 s'' hfw => hkap .none s'' ?_⟩
           show Seg _ A _ _ N s'' _ ((execs [] (ueEnv C a cd)).wrap _ _ _ _) fs s''
           refine seg_execs_nil ?_
           refine seg_again rfl ?_
           refine ih j _ (n + 1) N s'' s'' _ (by omega) hj (by omega) (X₃.fw O hfw) (Sn.refl _ _ _ _) (by rw [hr]; rw [List.length_cons] at hN; omega) (fun q => by have := hfN q; rw [hr]; rw [List.length_cons] at this; omega) hf0 (by omega) ?_ (by omega) ?_
           · rw [show us.length - N = us.length - (N + 1) + 1 by omega, ← List.drop_drop, hus, hr]; rfl
           · rw [show js.length - N = js.length - (N + 1) + 1 by omega, ← List.drop_drop, hjs, hr]; rfl)
    · have hu := uniq_pick_none hp
      rw [hu] at hN
      obtain rfl : N = 0 := by simpa using hN
      subst hfs
      refine seg_block_nil ?_
      rw [hk]
      refine seg_end _ ⟨rfl, rfl, hs.trans ⟨⟨h₁, tk₁, rfl⟩, fun b o hb hw e => hk₁ b o (fun z => ?_) (fun z => hw (z ▸ O.wC)) (fun z => hw (z ▸ O.wL)) e, fun b m' hb e => ?_⟩⟩
      · rcases O.wI with y | y
        · exact hw (z ▸ y)
        · obtain ⟨o', e'⟩ := hb; rw [z, y] at e'; cases e'
      · by_cases zL : b = L
        · subst zL; exact hL₁ m' e
        · exact e.at' fun o y => hk₁ b o (fun z => O.fI (z ▸ hb)) (fun z => O.fC (z ▸ hb)) zL y
end
end
end Mine

namespace Mine
section
set_option maxRecDepth 100000
set_option linter.unusedVariables false
open PySem.Builtin

theorem obj_ne {h : Heap} {a b : Addr} {oa ob : Obj} (ha : h.get? a = some oa) (hb : h.get? b = some ob) (hc : oa.cls ≠ ob.cls) : a ≠ b := fun z => by rw [z, hb] at ha; cases ha; exact hc rfl
theorem fresh_not {h : Heap} {y : Addr} {P : Addr → Prop} (k : ∀ b, P b → ∃ o, h.get? b = some o) (hy : h.get? y = none) : ¬ P y := fun q => by obtain ⟨o, e⟩ := k _ q; rw [hy] at e; cases e
theorem fresh_ne {h : Heap} {a b : Addr} {o : Obj} (ha : h.get? a = some o) (hb : h.get? b = none) : a ≠ b := fun z => by rw [z, hb] at ha; cases ha
theorem fresh_none {hb h : Heap} {y : Addr} (k : ∀ b, (∃ o, hb.get? b = some o) → ∃ o, h.get? b = some o) (hy : h.get? y = none) : hb.get? y = none := by
  cases q : hb.get? y with
  | none => rfl
  | some o => obtain ⟨o', e⟩ := k _ ⟨o, q⟩; rw [hy] at e; cases e

section
variable {prog : Program} {w : World} {A : Around} {hb st : Heap} {mg mb : Str → Option Value} {K : Frag} {wr fr mine : Addr → Prop} {C L l r a : Addr} {cd : Value} {us ns : List Int} {full : Prop} {vs : List Value} {lenv : Env} {zz : Nat → Heap → Prop} {js : List Nat}

theorem none_start (hh : A.handled = none) (hroom : A.depth + 5 < recursionLimit) (hfr : A.frames = some [lenv]) (hLf : lenv.frame = some L) (kL : lenv.scope.kind = .function) (T : FfAt K hb) (G : GB hb mg mb) (hl : hb.IsList l vs.toArray) (hI : IntsAre vs ns) (hlen : ns.length ≤ 60)
    {s : Shared} {m : Str → Option Value} {N : Nat} (X : KAt hb st wr fr mine C s.heap) (hn : s.heap.Ns C m) (hm1 : m "iterable" = some (.ref r)) (hm2 : m "key" = some .none)
    (hr : r = l ∨ (s.heap.IsListIter r l 0 ∧ wr r ∧ hb.get? r = none ∧ ¬ mine r ∧ ¬ fr r)) (nL : ∃ mL, s.heap.Ns L mL) (bL : hb.get? L = none) (wL : wr L) (CL : C ≠ L)
    (hN : N ≤ (uniq idf (fun _ => false) ns).length) (hfN : full → N = (uniq idf (fun _ => false) ns).length) (hz : N = 0 → full) (hNu : N ≤ us.length) (hus : us.drop (us.length - N) = (uniq idf (fun _ => false) ns).take N)
    (hNj : N ≤ js.length) (hjs : js.drop (js.length - N) = (stops (fun _ => false) 0 ns).take N) (hzz : ∀ It, (r ≠ l → It = r) → ∀ N j h, js[js.length - 1 - N]? = some j → h.IsListIter It l j → zz N h) :
    Seg (model prog w) A (Rp st wr fr) (Yp st wr fr mine us full zz) N s (.func ueBody (ueEnv C a cd)) ((model prog w).den (.func ueBody (ueEnv C a cd))) [] s := by
  have hh' : (A.over (.func ueBody (ueEnv C a cd)) []).handled = none := hh
  have hd' : (A.over (.func ueBody (ueEnv C a cd)) []).depth + 4 < recursionLimit := hroom
  obtain ⟨mL, nL⟩ := nL
  obtain ⟨oC, eC⟩ : ∃ o, s.heap.get? C = some o := let ⟨o, _, _, e, _⟩ := hn; ⟨o, e⟩
  obtain ⟨oL, eL⟩ : ∃ o, s.heap.get? L = some o := let ⟨o, _, _, e, _⟩ := nL; ⟨o, e⟩
  refine seg_func (seg_execs_cons (seg_plain ?_))
  refine wpAny_Assign_Name (Call_ (gb_builtin G X.stay (by decide) (v := .type "set") (by decide +kernel) (callWith_type0 (call_set_0 fun led => ?_)) rfl rfl rfl rfl))
  have fSe : s.heap.get? s.heap.objs.size = none := Heap.get?_none_of_le (Nat.le_refl _)
  have hset₁ : (s.heap.push { cls := .type "set", dict := none, data := .set #[] 0 (.fresh 0 0 led) }).get? s.heap.objs.size = some { cls := .type "set", dict := none, data := .set #[] 0 (.fresh 0 0 led) } := Heap.get?_push_size _ rfl
  have up₁ : ∀ b o, s.heap.get? b = some o → (s.heap.push { cls := .type "set", dict := none, data := .set #[] 0 (.fresh 0 0 led) }).get? b = some o := fun b o e => Heap.get?_push_of_some _ e
  generalize s.heap.objs.size = Se at fSe hset₁ ⊢
  generalize s.heap.push { cls := .type "set", dict := none, data := .set #[] 0 (.fresh 0 0 led) } = H₁ at hset₁ up₁ ⊢
  have oSC : C ≠ Se := fresh_ne eC fSe
  have X₁ := X.ext up₁
  refine ue_st (hn.keeps up₁) fun h₂ hn₂ hs₂ => ?_
  have X₂ := X₁.store hn₂ hs₂
  have hset₂ := hs₂.extBut _ _ oSC.symm hset₁
  refine seg_execs_cons (seg_plain ?_)
  refine wpAny_Assign_Name (Attribute_name (ue_ld hn₂ (v := .ref Se) (by show (if _ then _ else _) = _; rw [if_pos rfl]) (attr_set_add hset₂ ?_)))
  have fMt : h₂.get? h₂.objs.size = none := Heap.get?_none_of_le (Nat.le_refl _)
  have hmt₃ : (h₂.push (boundB "set.add" (.ref Se))).get? h₂.objs.size = some (boundB "set.add" (.ref Se)) := Heap.get?_push_size _ rfl
  have up₃ : ∀ b o, h₂.get? b = some o → (h₂.push (boundB "set.add" (.ref Se))).get? b = some o := fun b o e => Heap.get?_push_of_some _ e
  generalize h₂.objs.size = Mt at fMt hmt₃ ⊢
  generalize h₂.push (boundB "set.add" (.ref Se)) = H₃ at hmt₃ up₃ ⊢
  have k₂ : ∀ b o, b ≠ C → s.heap.get? b = some o → h₂.get? b = some o := fun b o hb e => hs₂.extBut _ _ hb (up₁ _ _ e)
  have oMC : C ≠ Mt := by obtain ⟨o, _, _, e, _⟩ := hn₂; exact fresh_ne e fMt
  have X₃ := X₂.ext up₃
  refine ue_st (hn₂.keeps up₃) fun h₄ hn₄ hs₄ => ?_
  have X₄ := X₃.store hn₄ hs₄
  have hset₄ := hs₄.extBut _ _ oSC.symm (up₃ _ _ hset₂)
  have hmt₄ := hs₄.extBut _ _ oMC.symm hmt₃
  have k₄ : ∀ b o, b ≠ C → s.heap.get? b = some o → h₄.get? b = some o := fun b o hb e => hs₄.extBut _ _ hb (up₃ _ _ (k₂ _ _ hb e))
  refine seg_execs_cons (seg_If ?_)
  refine wpAny_isTrue_Compare1 (ue_ld hn₄ (v := .none) (by show (if _ then _ else if _ then _ else _) = _; rw [if_neg (by decide), if_neg (by decide)]; exact hm2) ?_)
  refine wpAny_pure (wpAny_is_self (by rfl) (wpAny_truthy_bool ?_))
  show Seg _ A _ _ N s _ ((execs _ (ueEnv C a cd)).wrap _ _ _ _) [] _
  refine seg_execs_cons (seg_For ?_ fun _ => rfl)
  refine Call_ (gb_global G X₄.stay (v := .ref 47) G.ff ?_ rfl rfl rfl)
  refine callWith_K T.inn T.keep (args_cons (Attribute_name (ue_ld hn₄ (v := .ref Se) (by show (if _ then _ else if _ then _ else _) = _; rw [if_neg (by decide), if_pos rfl]) (attr_set_contains hset₄ ?_))))
  have fBt : h₄.get? h₄.objs.size = none := Heap.get?_none_of_le (Nat.le_refl _)
  have hbt₅ : (h₄.push (boundB "set.__contains__" (.ref Se))).get? h₄.objs.size = some (boundB "set.__contains__" (.ref Se)) := Heap.get?_push_size _ rfl
  have up₅ : ∀ b o, h₄.get? b = some o → (h₄.push (boundB "set.__contains__" (.ref Se))).get? b = some o := fun b o e => Heap.get?_push_of_some _ e
  generalize h₄.objs.size = Bt at fBt hbt₅ ⊢
  generalize h₄.push (boundB "set.__contains__" (.ref Se)) = H₅ at hbt₅ up₅ ⊢
  have X₅ := X₄.ext up₅
  refine args_cons (ue_ld (hn₄.keeps up₅) (v := .ref r) (by show (if _ then _ else if _ then _ else _) = _; rw [if_neg (by decide), if_neg (by decide)]; exact hm1) (args_nil ?_))
  refine ⟨frag_stays T.inn X₅.stay, ?_⟩
  have rC : ∀ (j : s.heap.IsListIter r l 0), r ≠ C := fun j => Ne.symm (ns_ne_iter hn j)
  have hsrc : Src H₅ r l vs.toArray := hr.elim (fun q => .inl ⟨q, hl.at fun o e => X₅.stay _ o e⟩) fun q => .inr ⟨q.1.at fun o e => up₅ _ _ (k₄ _ _ (rC q.1) e), hl.at fun o e => X₅.stay _ o e⟩
  refine ff_make T G X₅.stay (Nat.lt_of_succ_lt hd') hsrc fun x dx It h₆ tk₆ up₆ fx fd hx₆ hd₆ hi₆ hIt => ?_
  have X₆ := X₅.ext up₆
  refine ff_iter T X₆.stay G.nolimit (by have := hd'; omega) hx₆ hd₆ fun h₇ tk₇ up₇ => ?_
  have X₇ := X₆.ext up₇
  intro p
  have hn₇ := ((hn₄.keeps up₅).keeps up₆).keeps up₇
  have nL₇ : h₇.Ns L mL := (((nL.at' fun o e => k₄ _ o CL.symm e).keeps up₅).keeps up₆).keeps up₇
  have set₇ := up₇ _ _ (up₆ _ _ (up₅ _ _ hset₄))
  have mt₇ := up₇ _ _ (up₆ _ _ (up₅ _ _ hmt₄))
  have bt₇ := up₇ _ _ (up₆ _ _ hbt₅)
  have x₇ := up₇ _ _ hx₆
  have d₇ := up₇ _ _ hd₆
  have i₇ : h₇.IsListIter It l 0 := hi₆.at fun o e => up₇ _ o e
  obtain ⟨oI, eI, cI, dI⟩ := id i₇
  have eC₅ : ∃ o, H₅.get? C = some o := let ⟨o, _, _, e, _⟩ := hn₄.keeps up₅; ⟨o, e⟩
  obtain ⟨oC₅, eC₅⟩ := eC₅
  have stay' : ∀ {h : Heap}, hb.StaysIn h → ∀ b, (∃ o, hb.get? b = some o) → ∃ o, h.get? b = some o := fun k b ⟨o, e⟩ => ⟨o, k b o e⟩
  have itW : (wr It ∨ st.get? It = none) ∧ hb.get? It = none ∧ ¬ mine It ∧ ¬ fr It := by
    rcases hIt with ⟨q, _⟩ | q
    · exact ⟨.inr (fresh_none X₅.sh q), fresh_none (stay' X₅.stay) q, fresh_not X₅.mh q, fresh_not X₅.fh q⟩
    · rcases hr with z | z
      · exfalso
        subst q; subst z
        obtain ⟨o', e', c', _⟩ := hl
        have := X₇.stay _ _ e'
        rw [eI] at this; cases this
        rw [cI] at c'
        exact absurd c' (by decide)
      · exact q ▸ ⟨.inl z.2.1, z.2.2.1, z.2.2.2.1, z.2.2.2.2⟩
  have O : NOwn hb st wr fr mine C L It Se Mt Bt x dx :=
    { bC := X.bC, bI := itW.2.1, bS := fresh_none (stay' X.stay) fSe, bL := bL, wC := X.wC, wL := wL, wI := itW.1, sS := fresh_none X.sh fSe, mC := X.mC, mI := itW.2.2.1, mS := fresh_not X.mh fSe, mM := fresh_not X₂.mh fMt, mB := fresh_not X₄.mh fBt,
      mx := fresh_not X₅.mh fx, md := fresh_not X₅.mh fd, mb := X.mb, fC := X.fC, fI := itW.2.2.2, fS := fresh_not X.fh fSe, CL := CL, CI := ns_ne_iter hn₇ i₇, CS := oSC, CM := oMC, CB := by obtain ⟨o, _, _, e, _⟩ := hn₄; exact fresh_ne e fBt,
      Cx := fresh_ne eC₅ fx, Cd := fresh_ne eC₅ fd, LI := ns_ne_iter nL₇ i₇, LS := fresh_ne eL fSe,
      IS := obj_ne eI set₇ (by rw [cI]; simp), IM := obj_ne eI mt₇ (by rw [cI]; simp), IB := obj_ne eI bt₇ (by rw [cI]; simp), Ix := obj_ne eI x₇ (by rw [cI]; simp), Id := obj_ne eI d₇ (by rw [cI]; simp),
      SM := obj_ne set₇ mt₇ (by simp), SB := obj_ne set₇ bt₇ (by simp), Sx := obj_ne set₇ x₇ (by simp), Sd := obj_ne set₇ d₇ (by simp) }
  have hset₇ : h₇.SetOf (intKind prog w) Se (fun _ => false) 0 := (setObjOf_fresh (knd := intKind prog w) led).setOf set₇ (by decide)
  have K₇ : NInv prog w hb C L l It Se Mt Bt x dx 0 (fun _ => false) 0 _ h₇ := ⟨X₇.stay, hn₇, ⟨_, nL₇⟩, i₇, hset₇, mt₇, bt₇, x₇, d₇, by show (if _ then _ else _) = _; rw [if_pos rfl]⟩
  have S₁ : Sn st wr fr s { s with heap := H₁ } := (Sn.refl st wr fr s).ext (tk := s.toks) up₁
  have S₂ : Sn st wr fr s { s with heap := h₂, toks := s.toks + 1 } := S₁.trans (sn_but (s := { s with heap := H₁ }) (.inl X.wC) X.fC hs₂.extBut)
  have S₃ : Sn st wr fr s { s with heap := H₃, toks := s.toks + 1 + 1 } := S₂.ext up₃
  have S₄ : Sn st wr fr s { s with heap := h₄, toks := s.toks + 1 + 1 + 1 } := S₃.trans (sn_but (s := { s with heap := H₃, toks := s.toks + 1 + 1 }) (.inl X.wC) X.fC hs₄.extBut)
  have S₇ := S₄.ext (tk := tk₇) fun b o e => up₇ _ _ (up₆ _ _ (up₅ _ _ e))
  refine none_turn rfl rfl rfl hh hroom hfr hLf kL T G O hl hI hlen (hzz It fun q => ?_) ns.length 0 _ 0 N s _ _ (by omega) (Nat.zero_le _) (Nat.le_refl _) K₇ S₇ hN hfN hz hNu hus hNj hjs
  rcases hIt with ⟨_, z⟩ | z
  · exact absurd z q
  · exact z
end
end
end Mine

namespace Mine
section
set_option maxRecDepth 100000
set_option linter.unusedVariables false
open PySem.Builtin

section
variable {prog : Program} {w : World} {A : Around} {E : Value → Shared → Prop} {s : Shared} {hb : Heap} {mg mb : Str → Option Value} {K : Frag} {L l r : Addr} {ns : List Int} {vs : List Value} {lenv : Env}

theorem uniq_le {f : Int → Int} : ∀ (l : List Int) (S : Int → Bool), (uniq f S l).length ≤ l.length
  | [], _ => Nat.le_refl _
  | x :: l, S => by
    unfold uniq
    split
    · exact Nat.le_succ_of_le (uniq_le l _)
    · exact Nat.succ_le_succ (uniq_le l _)

theorem list_none {Q : Value → Shared → Prop} (hh : A.handled = none) (hroom : A.depth + 5 < recursionLimit) (hfr : A.frames = some [lenv]) (hLf : lenv.frame = some L) (kL : lenv.scope.kind = .function) (T : FfAt K hb) (U : UeAt hb) (G : GB hb mg mb) (st : hb.StaysIn s.heap)
    (hnL : ∃ mL, s.heap.Ns L mL) (hbL : hb.get? L = none) (hr : hb.IsList r vs.toArray) (hI : IntsAre vs ns) (hlen : ns.length ≤ 60)
    (hQ : ∀ D ys s', s.heap.get? D = none → Lv L s s' → s'.heap.PlainList D ys.toArray → IntsAre ys (uniq idf (fun _ => false) ns) → Q (.ref D) s') :
    wpAny (model prog w) A (call (.ref 59) [.ref r]) (fun gv s₁ => wpAny (model prog w) A (call (.type "list") [gv]) Q E s₁) E s := by
  obtain ⟨mL, nL⟩ := hnL
  obtain ⟨oL, eL⟩ : ∃ o, s.heap.get? L = some o := let ⟨o, _, _, e, _⟩ := nL; ⟨o, e⟩
  have hu := uniq_le (f := idf) ns (fun _ => false)
  refine list_ue (args := ⟨[.ref r], []⟩) (hb := hb) (binds := [("iterable", .ref r), ("key", .none)]) (us := uniq idf (fun _ => false) ns) hh (by omega) (by rw [sizeLine_eq]; omega) U st G.nolimit ⟨oL, eL⟩ hbL (fun doc pm ct an => one_binds U st doc pm ct an) ue_locs (fun C st' mine s₂ hC hmL keep nsk X hn => ?_) hQ
  exact none_start (A := A.in1.in1.in1) (js := stops (fun _ => false) 0 ns) hh hroom hfr hLf kL T G hr hI hlen X hn ue_m1 ue_m2 (.inl rfl) ⟨mL, nsk _ nL⟩ hbL (.inr rfl) (Ne.symm (fresh_ne eL hC)) (Nat.le_refl _) (fun _ => rfl) (fun _ => trivial) (Nat.le_refl _) (by rw [Nat.sub_self, List.drop_zero, List.take_length])
    (by rw [stops_length]; exact Nat.le_refl _) (by rw [← stops_length ns (fun _ => false) 0, Nat.sub_self, List.drop_zero, List.take_length]) (fun _ _ _ _ _ _ _ => trivial)

/-- where `asked` stands when the generator still has `N` of `js.length` stops to make -/
abbrev zAt (r l : Addr) (js : List Nat) : Nat → Heap → Prop := fun N h => ∀ j, js[js.length - 1 - N]? = some j → h.IsListIter r l j

theorem told_gat {a C : Addr} {g : Nat} {mine : Addr → Prop} {us : List Int} {js : List Nat} (hh : A.handled = none) (hroom : A.depth + 5 < recursionLimit) (hfr : A.frames = some [lenv]) (hLf : lenv.frame = some L) (kL : lenv.scope.kind = .function) (T : FfAt K hb) (U : UeAt hb) (G : GB hb mg mb) (st : hb.StaysIn s.heap)
    (hg : s.heap.IsGen a g) (hgs : s.gens[g]? = some (.fresh (.func ueBody (ueEnv C 59 (.ref 58))))) (hn : s.heap.Ns C (fun y => ([("iterable", .ref r), ("key", .none)] : List (Str × Value)).reverse.lookup y)) (hit : s.heap.IsListIter r l 0)
    (hnL : ∃ mL, s.heap.Ns L mL) (hbL : hb.get? L = none) (hbC : hb.get? C = none) (hbr : hb.get? r = none) (CL : C ≠ L) (rL : r ≠ L) (rl : r ≠ l) (mC : ¬ mine C) (mr : ¬ mine r) (mb' : ∀ b, mine b → hb.get? b = none) (mh : ∀ b, mine b → ∃ o, s.heap.get? b = some o)
    (hl : hb.IsList l vs.toArray) (hI : IntsAre vs ns) (hlen : ns.length ≤ 60) (hus : us = (uniq idf (fun _ => false) ns).take 2) (hjs : js = (stops (fun _ => false) 0 ns).take 2) (hpos : 0 < us.length) :
    GAt prog w A a g s.heap (fun b => b = C ∨ b = L ∨ b = r) (· = L) mine us False (zAt r l js) us.length s := by
  refine ⟨hg, G.nolimit.keeps st, _, hgs, fun s'' hw => ⟨rfl, ?_⟩⟩
  have hjl : js.length = us.length := by rw [hus, hjs, List.length_take, List.length_take, stops_length]
  have ul : us.length ≤ (uniq idf (fun _ => false) ns).length := by rw [hus, List.length_take]; exact Nat.min_le_right ..
  have ut : us = (uniq idf (fun _ => false) ns).take us.length := by
    have : us.length = min 2 (uniq idf (fun _ => false) ns).length := by rw [hus, List.length_take]
    rw [this, hus]
    rcases Nat.le_total 2 (uniq idf (fun _ => false) ns).length with h | h
    · rw [Nat.min_eq_left h]
    · rw [Nat.min_eq_right h, List.take_length, List.take_of_length_le h]
  have jt : js = (stops (fun _ => false) 0 ns).take us.length := by
    have : us.length = min 2 (stops (fun _ => false) 0 ns).length := by rw [← hjl, hjs, List.length_take]
    rw [this, hjs]
    rcases Nat.le_total 2 (stops (fun _ => false) 0 ns).length with h | h
    · rw [Nat.min_eq_left h]
    · rw [Nat.min_eq_right h, List.take_length, List.take_of_length_le h]
  have X : KAt hb s.heap (fun b => b = C ∨ b = L ∨ b = r) (· = L) mine C s''.heap :=
    ⟨fun b o e => hw.1 b o (fun q => by rw [mb' b q] at e; cases e) (st b o e), hbC, .inl rfl, mC, CL, mb', fun b q => hw.2.1 b (mh b q), fun b q => by
      subst q
      obtain ⟨mL, o, _, _, e, _⟩ := hnL
      exact hw.2.1 _ ⟨o, e⟩, fun b q => hw.2.1 b q⟩
  exact none_start (js := js) hh hroom hfr hLf kL T G hl hI hlen X (hn.at' fun o e => hw.1 _ o mC e) ue_m1 ue_m2 (.inr ⟨hit.at fun o e => hw.1 _ o mr e, .inr (.inr rfl), hbr, mr, rL⟩) (hw.2.2 _ hnL) hbL (.inr (.inl rfl)) CL ul (fun q => q.elim) (fun q => absurd q (Nat.ne_of_gt hpos)) (Nat.le_refl _) (by rw [Nat.sub_self, List.drop_zero]; exact ut)
    (Nat.le_of_eq hjl.symm) (by rw [hjl, Nat.sub_self, List.drop_zero]; exact jt) (fun It q N j h hj hi j' hj' => by obtain rfl := q rl; rw [hj] at hj'; cases hj'; exact hi)

theorem told_next {a : Addr} {g m : Nat} {st : Heap} {wr fr mine : Addr → Prop} {us : List Int} {full : Prop} {zz : Nat → Heap → Prop} {Q : Value → Shared → Prop} (hh : A.handled = none) (hroom : A.depth < recursionLimit) (G : GAt prog w A.in1.in1 a g st wr fr mine us full zz (m + 1) s)
    (ha : ∃ o, st.get? a = some o) (hwa : ¬ wr a) (hc : ∃ o, st.get? cStatics = some o) (hwc : ¬ wr cStatics)
    (hQ : ∀ x t s', us[us.length - 1 - m]? = some x → Mv st wr fr g s s' → zz m s'.heap → ((m = 0 → full) → GAt prog w A.in1.in1 a g st wr fr mine us full zz m s') → Q (.int x t) s') :
    wpAny (model prog w) A (call (.builtin "next") [.ref a]) Q E s :=
  call_next G.1.typeIs slot_gen_next (gat_item hh hroom G ha hwa hc hwc fun x t s' h1 h2 h3 h4 => ⟨_, rfl, hQ x t s' h1 h2 h3 h4⟩)
end
end
end Mine

namespace Mine
section
set_option maxRecDepth 100000
set_option linter.unusedVariables false

/-- how the law ends, seen from the heap with its code tables laid aside -/
def LawEnds (s₁ : Shared) (tabs : List (Addr × Addr)) (r : Result) (s' : Shared) : Prop :=
  r = .ok (.ret (.bool true)) ∧ (∀ b o, (ghostOf s₁.heap tabs).get? b = some o → s'.heap.get? b = some o) ∧ s'.os = s₁.os ∧ AllBare s'.gens ∧ GrownAll tabs s'.heap

theorem post_law {M : Model} {A : Around} {cd : Code} {s s₁ : Shared} {cw : ClaimW} {cl : Str → Option Addr} {mean : ExcName → Option Value} {args : List WData} {tabs : List (Addr × Addr)} (hT : TabsAt tabs s₁.heap) (hr : ∀ a x, cw.raises a x = false)
    (hp : cw.post args (.bool true) args = true) (h : codeAny M A cd (LawEnds s₁ tabs) s) : codeAny M A cd (GoodWG cw cl mean args s₁) s :=
  codeAny_mono h fun r s' ⟨hv, hk, hos, hg, hgr⟩ => by
    have keep : ∀ b o, b ∉ tabs.map (·.2) → s₁.heap.get? b = some o → s'.heap.get? b = some o := fun b o hb e => hk b o (ghost_ne e hb)
    have grown : ∀ b o, b ∈ tabs.map (·.2) → s₁.heap.get? b = some o → isCodeTable s₁.heap b ∧ o = tabObj #[] ∧ ∃ ps, s'.heap.get? b = some (tabObj ps) := fun b o hb e => by
      obtain ⟨q, hq, rfl⟩ := List.mem_map.mp hb
      have e2 := (hT q hq).2
      rw [e] at e2
      exact ⟨((hT q hq).1.tab (hT q hq).2).isCodeTable, Option.some.inj e2, hgr.get q hq⟩
    refine ⟨.inl ⟨_, .bool true, [], hv, hr args, .bool true, hp, fun _ => ⟨List.nodup_nil, fun a ha => by cases ha⟩⟩, ⟨fun b o e => ?_, fun b o e => ?_⟩, hos, hg⟩
    · by_cases hb : b ∈ tabs.map (·.2)
      · obtain ⟨ht, rfl, ps, hP⟩ := grown b o hb e
        exact .inr (.inl ⟨ht, rfl, #[], ps, rfl, by rw [Array.empty_append]; exact hP⟩)
      · exact .inl (keep b o hb e)
    · by_cases hb : b ∈ tabs.map (·.2)
      · obtain ⟨_, _, ps, hP⟩ := grown b o hb e
        exact ⟨_, hP⟩
      · exact ⟨o, keep b o hb e⟩
end
end Mine

namespace Mine
section
set_option maxRecDepth 100000
set_option linter.unusedVariables false
open PySem.Builtin

def lawBody : List Stmt := bodyOf (topAt 6)
def lawScope : Scope := scopeOf (topAt 6)
abbrev lawEnv (L a : Addr) : Env := envOfC "law" lawScope L a (.ref 68)
abbrev HL (L : Addr) : List Addr := [66, L, L + 1, L + 1 + 1]

/-- what stands in every heap of the law -/
structure Base (K : Frag) (mg mb : Str → Option Value) (hb : Heap) : Prop where
  G : GB hb mg mb
  U : UeAt hb
  F : LfAt hb
  T : FfAt K hb
  code : CodeHd hb 68 66
  bm : hb.BuiltinsAt mg 66

theorem GB.keeps {hb h : Heap} {mg mb : Str → Option Value} (X : GB hb mg mb) (st : hb.StaysIn h) : GB h mg mb := ⟨X.g.keeps st, X.b.keeps st, X.builtins, X.miss, X.ue, X.lf, X.ff, X.nolimit.keeps st⟩
theorem UeAt.keeps {hb h : Heap} (X : UeAt hb) (st : hb.StaysIn h) : UeAt h := ⟨let ⟨d, p, c, a, e⟩ := X.fn; ⟨d, p, c, a, st _ _ e⟩, X.code.keeps st, st _ _ X.dflt⟩
theorem LfAt.keeps {hb h : Heap} (X : LfAt hb) (st : hb.StaysIn h) : LfAt h := ⟨let ⟨o, p, d, e, q⟩ := X.fn; ⟨o, p, d, st _ _ e, q⟩, X.code.keeps st⟩
theorem FfAt.keeps {K : Frag} {hb h : Heap} (X : FfAt K hb) (st : hb.StaysIn h) : FfAt K h :=
  { X with inn := frag_stays X.inn st, f29 := let ⟨d, p, c, a, e⟩ := X.f29; ⟨d, p, c, a, st _ _ e⟩, c28 := X.c28.keeps st, f36 := let ⟨d, p, c, a, e⟩ := X.f36; ⟨d, p, c, a, st _ _ e⟩, c35 := X.c35.keeps st, f43 := let ⟨d, p, c, a, e⟩ := X.f43; ⟨d, p, c, a, st _ _ e⟩, c42 := X.c42.keeps st }
theorem builtinsAt_keeps {hb h : Heap} {mg : Str → Option Value} (X : hb.BuiltinsAt mg 66) (st : hb.StaysIn h) : h.BuiltinsAt mg 66 := by
  obtain ⟨bm, ob, b1, b2, b3, b4, b5, b6⟩ := X
  exact ⟨bm, ob, b1, b2, b3, b4, st _ _ b5, b6⟩
theorem Base.keeps {K : Frag} {hb h : Heap} {mg mb : Str → Option Value} (X : Base K mg mb hb) (st : hb.StaysIn h) : Base K mg mb h :=
  ⟨X.G.keeps st, X.U.keeps st, X.F.keeps st, X.T.keeps st, X.code.keeps st, builtinsAt_keeps X.bm st⟩
theorem WayAt.keeps {prog : Program} {w : World} {hb h : Heap} {f : Int → Int} {wf : Addr} (X : WayAt prog w hb f wf) (st : hb.StaysIn h) : WayAt prog w h f wf :=
  ⟨let ⟨o, d, e, q⟩ := X.fn; ⟨o, d, st _ _ e, q⟩, fun A E Q v t s hr k => X.call A E Q v t s hr fun b o e => k b o (st b o e)⟩

/-- the table of the law's nested code: what is written in it stands above line `n` -/
def TabOk (n : Nat) (ps : Array Value) : Prop := TriplesOk ps.toList ∧ ∀ p : Pos, n ≤ p.line → codeAmong p ps.toList = none
theorem tabOk_push {n : Nat} {ps : Array Value} {p : Pos} {c : Value} (X : TabOk n ps) (hp : n ≤ p.line) : TabOk (p.line + 1) (ps ++ #[rawInt p.line, rawInt p.col, c]) := by
  obtain ⟨h1, h2⟩ := X
  have key : ∀ l : List Value, TriplesOk l → TriplesOk (l ++ [rawInt p.line, rawInt p.col, c]) ∧ ∀ q : Pos, p.line + 1 ≤ q.line → codeAmong q l = none → codeAmong q (l ++ [rawInt p.line, rawInt p.col, c]) = none := by
    intro l h
    fun_induction TriplesOk l with
    | case1 =>
      refine ⟨by simp [TriplesOk, rawInt], fun q hq _ => ?_⟩
      have : ¬ ((p.line : Int) = (q.line : Int)) := by omega
      simp [codeAmong, rawInt, this]
    | case2 a t b u x rest ih =>
      obtain ⟨i1, i2⟩ := ih h
      refine ⟨by simpa [TriplesOk] using i1, fun q hq hn => ?_⟩
      simp only [List.cons_append, codeAmong] at hn ⊢
      split at hn
      · cases hn
      · rename_i hc
        rw [if_neg hc]
        exact i2 q hq hn
    | case3 => exact h.elim
  refine ⟨by simpa using (key ps.toList h1).1, fun q hq => ?_⟩
  have := (key ps.toList h1).2 q hq (h2 q (by omega))
  simpa using this

theorem ne1 (L : Nat) : L + 1 ≠ L := by omega
theorem ne2 (L : Nat) : L + 1 + 1 ≠ L := by omega
theorem ne3 (L : Nat) : L + 1 + 1 ≠ L + 1 := by omega
theorem ne661 {L : Nat} (h : 66 < L) : 66 ≠ L + 1 := by omega
theorem ne662 {L : Nat} (h : 66 < L) : 66 ≠ L + 1 + 1 := by omega

structure LB (hb : Heap) (L : Addr) : Prop where
  n66 : hb.get? 66 = none
  nL : hb.get? L = none
  n1 : hb.get? (L + 1) = none
  n2 : hb.get? (L + 1 + 1) = none
  lt : 66 < L

/-- the law between two of its steps -/
structure LS (hb : Heap) (L : Addr) (n : Nat) (m : Str → Option Value) (cw cf : Option Value) (s₀ s : Shared) : Prop where
  stay : hb.StaysIn s.heap
  ns : s.heap.Ns L m
  way : s.heap.IsCell (L + 1) cw
  first : s.heap.IsCell (L + 1 + 1) cf
  tab : ∃ ps, s.heap.get? 66 = some (tabObj ps) ∧ TabOk n ps
  bare : AllBare s.gens
  os : s.os = s₀.os

section
variable {hb : Heap} {L : Addr} {n : Nat} {m : Str → Option Value} {cw cf : Option Value} {s₀ s s' : Shared} {h' : Heap} {tk : Nat}

theorem LS.ext (X : LS hb L n m cw cf s₀ s) (k : ∀ b o, s.heap.get? b = some o → h'.get? b = some o) : LS hb L n m cw cf s₀ { s with heap := h', toks := tk } :=
  ⟨fun b o e => k _ _ (X.stay b o e), X.ns.keeps k, X.way.keeps k, X.first.keeps k, let ⟨ps, e, q⟩ := X.tab; ⟨ps, k _ _ e, q⟩, X.bare, X.os⟩
theorem cell_at {h h' : Heap} {c : Addr} {v : Option Value} (X : h.IsCell c v) (k : ∀ o, h.get? c = some o → h'.get? c = some o) : h'.IsCell c v := let ⟨o, e, q⟩ := X; ⟨o, k o e, q⟩
theorem LS.lv (B : LB hb L) (X : LS hb L n m cw cf s₀ s) (V : Lv L s s') : LS hb L n m cw cf s₀ s' :=
  ⟨fun b o e => V.keep b o (fun q => by rw [q, B.nL] at e; cases e) (X.stay b o e), V.ns _ X.ns, cell_at X.way fun o e => V.keep _ o (ne1 L) e, cell_at X.first fun o e => V.keep _ o (ne2 L) e,
    let ⟨ps, e, q⟩ := X.tab; ⟨ps, V.keep _ _ (Nat.ne_of_lt B.lt) e, q⟩, V.bare X.bare, V.os.trans X.os⟩
theorem LS.set {m' : Str → Option Value} (B : LB hb L) (X : LS hb L n m cw cf s₀ s) (hn : h'.Ns L m') (k : Heap.SameBut L s.heap h') : LS hb L n m' cw cf s₀ { s with heap := h', toks := tk } :=
  ⟨fun b o e => k.extBut b o (fun q => by rw [q, B.nL] at e; cases e) (X.stay b o e), hn, cell_at X.way fun o e => k.extBut _ o (ne1 L) e, cell_at X.first fun o e => k.extBut _ o (ne2 L) e,
    let ⟨ps, e, q⟩ := X.tab; ⟨ps, k.extBut _ _ (Nat.ne_of_lt B.lt) e, q⟩, X.bare, X.os⟩
theorem LS.setWay {v : Option Value} (B : LB hb L) (X : LS hb L n m cw cf s₀ s) (hc : h'.IsCell (L + 1) v) (k : Heap.SameBut (L + 1) s.heap h') : LS hb L n m v cf s₀ { s with heap := h', toks := tk } :=
  ⟨fun b o e => k.extBut b o (fun q => by rw [q, B.n1] at e; cases e) (X.stay b o e), X.ns.sameBut k (ne1 L).symm, hc, cell_at X.first fun o e => k.extBut _ o (ne3 L) e,
    let ⟨ps, e, q⟩ := X.tab; ⟨ps, k.extBut _ _ (ne661 B.lt) e, q⟩, X.bare, X.os⟩
theorem LS.setFirst {v : Option Value} (B : LB hb L) (X : LS hb L n m cw cf s₀ s) (hc : h'.IsCell (L + 1 + 1) v) (k : Heap.SameBut (L + 1 + 1) s.heap h') : LS hb L n m cw v s₀ { s with heap := h', toks := tk } :=
  ⟨fun b o e => k.extBut b o (fun q => by rw [q, B.n2] at e; cases e) (X.stay b o e), X.ns.sameBut k (ne2 L).symm, cell_at X.way fun o e => k.extBut _ o (ne3 L).symm e, hc,
    let ⟨ps, e, q⟩ := X.tab; ⟨ps, k.extBut _ _ (ne662 B.lt) e, q⟩, X.bare, X.os⟩
theorem LS.tabbed {n' : Nat} {ps : Array Value} (B : LB hb L) (X : LS hb L n m cw cf s₀ s) (k : ∀ b o, b ≠ 66 → s.heap.get? b = some o → h'.get? b = some o) (ht : h'.get? 66 = some (tabObj ps)) (hq : TabOk n' ps) : LS hb L n' m cw cf s₀ { s with heap := h', toks := tk } :=
  ⟨fun b o e => k b o (fun q => by rw [q, B.n66] at e; cases e) (X.stay b o e), X.ns.at' fun o e => k _ o (Nat.ne_of_gt B.lt) e, cell_at X.way fun o e => k _ o (ne661 B.lt).symm e, cell_at X.first fun o e => k _ o (ne662 B.lt).symm e,
    ⟨ps, ht, hq⟩, X.bare, X.os⟩
theorem LS.hide (B : LB hb L) (X : LS hb L n m cw cf s₀ s) : hb.StaysIn (hideAll s.heap (HL L)) := fun b o e => hideAll_get _ (X.stay b o e) fun q => by
  rcases List.mem_cons.mp q with rfl | q
  · rw [B.n66] at e; cases e
  rcases List.mem_cons.mp q with rfl | q
  · rw [B.nL] at e; cases e
  rcases List.mem_cons.mp q with rfl | q
  · rw [B.n1] at e; cases e
  rw [List.mem_singleton.mp q, B.n2] at e; cases e
end
theorem hide_list {h : Heap} {L l : Addr} {items : Array Value} (X : h.IsList l items) (hl : l ∉ HL L) : (hideAll h (HL L)).IsList l items := let ⟨o, e, q⟩ := X; ⟨o, hideAll_get _ e hl, q⟩
/-- a list is none of what the law changes -/
theorem list_not {hb : Heap} {L l : Addr} {n : Nat} {m : Str → Option Value} {cw cf : Option Value} {s₀ s : Shared} {items : Array Value} (S : LS hb L n m cw cf s₀ s) (X : s.heap.IsList l items) : l ∉ HL L := fun q => by
  obtain ⟨o, e, hc, c, hd⟩ := X
  rcases List.mem_cons.mp q with rfl | q
  · obtain ⟨ps, e', _⟩ := S.tab
    rw [e] at e'; cases e'; cases hd
  rcases List.mem_cons.mp q with rfl | q
  · obtain ⟨o', _, _, e', hd', _⟩ := S.ns
    rw [e] at e'; cases e'; rw [hd] at hd'; cases hd'
  rcases List.mem_cons.mp q with rfl | q
  · obtain ⟨o', e', hd'⟩ := S.way
    rw [e] at e'; cases e'; rw [hd] at hd'; cases hd'
  rw [List.mem_singleton.mp q] at e
  obtain ⟨o', e', hd'⟩ := S.first
  rw [e] at e'; cases e'; rw [hd] at hd'; cases hd'
end
end Mine

namespace Mine
section
set_option maxRecDepth 100000
set_option linter.unusedVariables false
open PySem.Builtin

theorem far_list (sz L b : Nat) (h1 : L + 1 + 1 < sz) (h2 : 66 < L) (h3 : sz ≤ b) : b ∉ ([66, L, L + 1, L + 1 + 1] : List Nat) := by
  simp only [List.mem_cons, List.not_mem_nil, or_false, not_or]
  omega

section
variable {prog : Program} {w : World} {A : Around} {E : Value → Shared → Prop} {s₀ s : Shared} {hb : Heap} {K : Frag} {mg mb : Str → Option Value} {L a : Addr} {n : Nat} {m : Str → Option Value} {cw cf : Option Value}

theorem law_ld {x : Str} {pos : Pos} {v : Value} {Q : Value → Shared → Prop} (S : LS hb L n m cw cf s₀ s) (hv : m x = some v) (h : Q v s) (hl : (lawEnv L a).kindOf x = some .local := by rfl) (hd : (x == ("__debug__" : Str)) = false := by decide) :
    wpAny (model prog w) A (eval (.Name x pos) (lawEnv L a)) Q E s := wpAny_Name (wpAny_loadName_local rfl hl S.ns hv h) hd
theorem law_st {x : Str} {v : Value} {Q : Unit → Shared → Prop} (B : LB hb L) (S : LS hb L n m cw cf s₀ s) (h : ∀ h' tk, LS hb L n (fun y => if y = x then some v else m y) cw cf s₀ { s with heap := h', toks := tk } → Heap.SameBut L s.heap h' → Q () { s with heap := h', toks := tk }) (hl : (lawEnv L a).kindOf x = some .local := by rfl) :
    wpAny (model prog w) A (storeName (lawEnv L a) x v) Q E s := wpAny_storeName_local hl S.ns (fun h' hn hs => h h' _ (S.set B hn hs) hs) rfl
theorem law_ldWay {pos : Pos} {v : Value} {Q : Value → Shared → Prop} (S : LS hb L n m (some v) cf s₀ s) (h : Q v s) : wpAny (model prog w) A (eval (.Name "way" pos) (lawEnv L a)) Q E s :=
  wpAny_Name (wpAny_loadName_cell (c := L + 1) rfl (by rfl) (by rfl) S.way h)
theorem law_ldFirst {pos : Pos} {v : Value} {Q : Value → Shared → Prop} (S : LS hb L n m cw (some v) s₀ s) (h : Q v s) : wpAny (model prog w) A (eval (.Name "first" pos) (lawEnv L a)) Q E s :=
  wpAny_Name (wpAny_loadName_cell (c := L + 1 + 1) rfl (by rfl) (by rfl) S.first h)
theorem law_stWay {v : Value} {Q : Unit → Shared → Prop} (B : LB hb L) (S : LS hb L n m cw cf s₀ s) (h : ∀ h', LS hb L n m (some v) cf s₀ { s with heap := h' } → Heap.SameBut (L + 1) s.heap h' → Q () { s with heap := h' }) :
    wpAny (model prog w) A (storeName (lawEnv L a) "way" v) Q E s := wpAny_storeName_cell (c := L + 1) rfl (by rfl) (by rfl) S.way fun h' hc hs => h h' (S.setWay (tk := s.toks) B hc hs) hs
theorem law_stFirst {v : Value} {Q : Unit → Shared → Prop} (B : LB hb L) (S : LS hb L n m cw cf s₀ s) (h : ∀ h', LS hb L n m cw (some v) s₀ { s with heap := h' } → Heap.SameBut (L + 1 + 1) s.heap h' → Q () { s with heap := h' }) :
    wpAny (model prog w) A (storeName (lawEnv L a) "first" v) Q E s := wpAny_storeName_cell (c := L + 1 + 1) rfl (by rfl) (by rfl) S.first fun h' hc hs => h h' (S.setFirst (tk := s.toks) B hc hs) hs

/-- one of the law's lambdas is made -/
theorem law_lam {body : Expr} {pos p : Pos} {Q : Value → Shared → Prop} (Z : Base K mg mb hb) (B : LB hb L) (S : LS hb L n m cw cf s₀ s) (hn : n ≤ pos.line)
    (h : ∀ f c' ctv pm h' tk, LS hb L (pos.line + 1) m cw cf s₀ { s with heap := h', toks := tk } → (∀ b o, b ≠ 66 → s.heap.get? b = some o → h'.get? b = some o) → h'.get? f = some (kla_obj "<lambda>" "law.<locals>.<lambda>" (lamPar p) body lamSc [] pm c' ctv) → h'.CodeRec (.ref c') "law.<locals>.<lambda>" → f ∉ HL L → c' ∉ HL L →
      Q (.ref f) { s with heap := h', toks := tk }) : wpAny (model prog w) A (eval (.Lambda (lamPar p) body lamSc pos) (lawEnv L a)) Q E s := by
  obtain ⟨ps, hP, hok⟩ := S.tab
  have lt : 66 < L := B.lt
  refine kla_eval (by rfl) (kla_makeFunction (clos := []) (c := 68) (P := 66) (ps := ps) (mg := mg) (by rfl) rfl (Z.G.g.keeps S.stay) rfl (Z.code.keeps S.stay) hP hok.1 (hok.2 pos hn) (by decide) (builtinsAt_keeps Z.bm S.stay) fun c' ctv h' tk hx hge hlt hrec ht => ?_)
  have up : ∀ b o, b ≠ 66 → s.heap.get? b = some o → (h'.push (kla_obj "<lambda>" "law.<locals>.<lambda>" (lamPar p) body lamSc [] ((mg "__name__").getD .none) c' ctv)).get? b = some o := fun b o hb e => Heap.get?_push_of_some _ (hx b o hb e)
  have lt2 : L + 1 + 1 < s.heap.objs.size := S.first.lt
  have far : ∀ b, s.heap.objs.size ≤ b → b ∉ HL L := fun b hb => far_list _ _ _ lt2 lt hb
  refine h h'.objs.size c' ctv _ _ tk (S.tabbed B up (Heap.get?_push_of_some _ ht) (tabOk_push hok hn)) up (Heap.get?_push_size _ rfl) (hrec.keeps fun b o e => Heap.get?_push_of_some _ e) (far _ (Nat.le_trans hge (Nat.le_of_lt hlt))) (far _ hge)

theorem codeRec_hide {h : Heap} {c' L : Addr} {q : Str} (X : h.CodeRec (.ref c') q) (hc : c' ∉ HL L) : (hideAll h (HL L)).CodeRec (.ref c') q := by
  obtain ⟨c, oc, vs, t, e, ho, hd, hv⟩ := X
  cases e
  exact ⟨_, oc, vs, t, rfl, hideAll_get _ ho hc, hd, hv⟩

/-- `_law_firsts` of a list, by a function -/
theorem law_firsts {e ew : Expr} {pf pos : Pos} {Q : Value → Shared → Prop} (hh : A.handled = none) (hroom : A.depth + 8 < recursionLimit) (Z : Base K mg mb hb) (B : LB hb L) (S : LS hb L n m cw cf s₀ s)
    (he : starEach (e :: [ew]) (lawEnv L a) = (false, eval e (lawEnv L a)) :: starEach [ew] (lawEnv L a)) (hew : starEach [ew] (lawEnv L a) = (false, eval ew (lawEnv L a)) :: starEach [] (lawEnv L a))
    (h : wpAny (model prog w) A (eval e (lawEnv L a)) (fun v s₁ => wpAny (model prog w) A (eval ew (lawEnv L a)) (fun u s₂ => ∃ l vs ns wf f n' m' cw' cf', v = .ref l ∧ u = .ref wf ∧ LS hb L n' m' cw' cf' s₀ s₂ ∧ WayAt prog w (hideAll s₂.heap (HL L)) f wf ∧
      s₂.heap.IsList l (vs : List Value).toArray ∧ IntsAre vs ns ∧ (∀ x ∈ ns, 0 ≤ x ∧ x < 12) ∧ ns.length ≤ 60 ∧
      (∀ D h' tk ys, (∀ b o, s₂.heap.get? b = some o → h'.get? b = some o) → s₂.heap.get? D = none → h'.PlainList D (ys : List Value).toArray → IntsAre ys (firstsGo f [] ns) → LS hb L n' m' cw' cf' s₀ { s₂ with heap := h', toks := tk } → Q (.ref D) { s₂ with heap := h', toks := tk })) E s₁) E s) :
    wpAny (model prog w) A (eval (.Call (.Name "_law_firsts" pf) [e, ew] [] pos) (lawEnv L a)) Q E s := by
  obtain ⟨o, pm, doc, ho, hdat⟩ := Z.F.fn
  refine Call_ (gb_global Z.G S.stay (v := .ref 64) Z.G.lf ?_ rfl rfl rfl)
  refine callWith_def hdat (args_cons (wpAny_mono h (fun v s₁ h₁ => args_cons (wpAny_mono h₁ (fun u s₂ h₂ => args_nil ?_) fun _ _ x => x) hew) fun _ _ x => x) he) he
  obtain ⟨l, vs, ns, wf, f, n', m', cw', cf', rfl, rfl, S', W, hl, hI, hns, hlen, hQ⟩ := h₂
  refine ⟨S'.stay _ _ ho, call_lf (Z.keeps (S'.hide B)).F hh (by omega) W (Z.keeps (S'.hide B)).G (fun b o q => of_hideAll _ q) hl hI hns hlen fun D h' tk ys k nD hp hI' => ?_⟩
  exact hQ D h' tk ys k nD hp hI' (S'.ext k)
end
end
end Mine

namespace Mine
section
set_option maxRecDepth 100000
set_option linter.unusedVariables false
open PySem.Builtin

section
variable {prog : Program} {w : World} {A : Around} {E : Value → Shared → Prop} {s₀ s : Shared} {hb : Heap} {K : Frag} {mg mb : Str → Option Value} {L a : Addr} {n : Nat} {m : Str → Option Value} {cw cf : Option Value} {lenv : Env}

/-- `list(unique_everseen(e, ew))` -/
theorem law_list_pos {e ew : Expr} {pl pf pos pos' : Pos} {Q : Value → Shared → Prop} (hh : A.handled = none) (hroom : A.depth + 8 < recursionLimit) (Z : Base K mg mb hb) (B : LB hb L) (S : LS hb L n m cw cf s₀ s)
    (he : starEach (e :: [ew]) (lawEnv L a) = (false, eval e (lawEnv L a)) :: starEach [ew] (lawEnv L a)) (hew : starEach [ew] (lawEnv L a) = (false, eval ew (lawEnv L a)) :: starEach [] (lawEnv L a))
    (h : wpAny (model prog w) A (eval e (lawEnv L a)) (fun v s₁ => wpAny (model prog w) A (eval ew (lawEnv L a)) (fun u s₂ => ∃ l vs ns wf f n' m' cw' cf', v = .ref l ∧ u = .ref wf ∧ LS hb L n' m' cw' cf' s₀ s₂ ∧ WayAt prog w (hideAll s₂.heap (HL L)) f wf ∧
      s₂.heap.IsList l (vs : List Value).toArray ∧ IntsAre vs ns ∧ (∀ x ∈ ns, 0 ≤ x ∧ x < 12) ∧ ns.length ≤ 60 ∧
      (∀ D ys s', s₂.heap.get? D = none → Lv L s₂ s' → s'.heap.PlainList D (ys : List Value).toArray → IntsAre ys (uniq f (fun _ => false) ns) → LS hb L n' m' cw' cf' s₀ s' → Q (.ref D) s')) E s₁) E s) :
    wpAny (model prog w) A (eval (.Call (.Name "list" pl) [.Call (.Name "unique_everseen" pf) [e, ew] [] pos] [] pos') (lawEnv L a)) Q E s := by
  obtain ⟨doc, pm, ct, an, ho⟩ := Z.U.fn
  refine Call_ (gb_builtin Z.G S.stay (v := .type "list") (by decide) (by decide +kernel) ?_ rfl rfl rfl rfl)
  refine callWith_type1 (args_cons (Call_ (gb_global Z.G S.stay (v := .ref 59) Z.G.ue ?_ rfl rfl rfl)))
  refine callWith_def (o := { cls := .type "function", data := .func (ueFn doc pm ct an) }) (fd := ueFn doc pm ct an) rfl (args_cons (wpAny_mono h (fun v s₁ h₁ => args_cons (wpAny_mono h₁ (fun u s₂ h₂ => args_nil ?_) fun _ _ x => x) hew) fun _ _ x => x) he) he
  obtain ⟨l, vs, ns, wf, f, n', m', cw', cf', rfl, rfl, S', W, hl, hI, hns, hlen, hQ⟩ := h₂
  have Z' := Z.keeps (S'.hide B)
  refine ⟨S'.stay _ _ ho, ?_⟩
  refine wpAny_mono (list_key (args := ⟨[.ref l, .ref wf], []⟩) (L := L) (.inr rfl) hh (by omega) Z'.U Z'.G (fun b o q => of_hideAll _ q) (let ⟨o, _, _, q, _⟩ := S'.ns; ⟨o, q⟩) (hideAll_none _ (.tail _ (.head _))) W (hide_list hl (list_not S' hl)) hI hns hlen fun D ys s' nD V hp hI' => hQ D ys s' nD V hp hI' (S'.lv B V)) (fun gv s₁ x => args_nil x) fun _ _ x => x

/-- `list(unique_everseen(e, key=ew))` -/
theorem law_list_key {e ew : Expr} {pl pf pos pos' pk : Pos} {Q : Value → Shared → Prop} (hh : A.handled = none) (hroom : A.depth + 8 < recursionLimit) (Z : Base K mg mb hb) (B : LB hb L) (S : LS hb L n m cw cf s₀ s)
    (he : starEach [e] (lawEnv L a) = (false, eval e (lawEnv L a)) :: starEach [] (lawEnv L a))
    (h : wpAny (model prog w) A (eval e (lawEnv L a)) (fun v s₁ => wpAny (model prog w) A (eval ew (lawEnv L a)) (fun u s₂ => ∃ l vs ns wf f n' m' cw' cf', v = .ref l ∧ u = .ref wf ∧ LS hb L n' m' cw' cf' s₀ s₂ ∧ WayAt prog w (hideAll s₂.heap (HL L)) f wf ∧
      s₂.heap.IsList l (vs : List Value).toArray ∧ IntsAre vs ns ∧ (∀ x ∈ ns, 0 ≤ x ∧ x < 12) ∧ ns.length ≤ 60 ∧
      (∀ D ys s', s₂.heap.get? D = none → Lv L s₂ s' → s'.heap.PlainList D (ys : List Value).toArray → IntsAre ys (uniq f (fun _ => false) ns) → LS hb L n' m' cw' cf' s₀ s' → Q (.ref D) s')) E s₁) E s) :
    wpAny (model prog w) A (eval (.Call (.Name "list" pl) [.Call (.Name "unique_everseen" pf) [e] [⟨some "key", ew, pk⟩] pos] [] pos') (lawEnv L a)) Q E s := by
  obtain ⟨doc, pm, ct, an, ho⟩ := Z.U.fn
  refine Call_ (gb_builtin Z.G S.stay (v := .type "list") (by decide) (by decide +kernel) ?_ rfl rfl rfl rfl)
  refine callWith_type1 (args_cons (wpAny_Call_Name_kw (gb_global Z.G S.stay (v := .ref 59) Z.G.ue ?_ rfl rfl rfl)))
  refine callWith_def_kw (o := { cls := .type "function", data := .func (ueFn doc pm ct an) }) (fd := ueFn doc pm ct an) rfl (evalArgs_kw2 (by rfl) (args_cons (wpAny_mono h (fun v s₁ h₁ => args_nil (kwAll_cons (wpAny_mono h₁ (fun u s₂ h₂ => kwAll_nil ?_) fun _ _ x => x))) fun _ _ x => x) he) he)
  obtain ⟨l, vs, ns, wf, f, n', m', cw', cf', rfl, rfl, S', W, hl, hI, hns, hlen, hQ⟩ := h₂
  have Z' := Z.keeps (S'.hide B)
  refine ⟨S'.stay _ _ ho, ?_⟩
  refine wpAny_mono (list_key (args := ⟨[.ref l], [("key", .ref wf)]⟩) (L := L) (.inl rfl) hh (by omega) Z'.U Z'.G (fun b o q => of_hideAll _ q) (let ⟨o, _, _, q, _⟩ := S'.ns; ⟨o, q⟩) (hideAll_none _ (.tail _ (.head _))) W (hide_list hl (list_not S' hl)) hI hns hlen fun D ys s' nD V hp hI' => hQ D ys s' nD V hp hI' (S'.lv B V)) (fun gv s₁ x => args_nil x) fun _ _ x => x

/-- `list(unique_everseen(e))` -/
theorem law_list_one {e : Expr} {pl pf pos pos' : Pos} {Q : Value → Shared → Prop} (hh : A.handled = none) (hroom : A.depth + 8 < recursionLimit) (hfr : A.frames = some [lenv]) (hLf : lenv.frame = some L) (kL : lenv.scope.kind = .function) (Z : Base K mg mb hb) (B : LB hb L) (S : LS hb L n m cw cf s₀ s)
    (he : starEach [e] (lawEnv L a) = (false, eval e (lawEnv L a)) :: starEach [] (lawEnv L a))
    (h : wpAny (model prog w) A (eval e (lawEnv L a)) (fun v s₂ => ∃ l vs ns n' m' cw' cf', v = .ref l ∧ LS hb L n' m' cw' cf' s₀ s₂ ∧ s₂.heap.IsList l (vs : List Value).toArray ∧ IntsAre vs ns ∧ ns.length ≤ 60 ∧
      (∀ D ys s', s₂.heap.get? D = none → Lv L s₂ s' → s'.heap.PlainList D (ys : List Value).toArray → IntsAre ys (uniq idf (fun _ => false) ns) → LS hb L n' m' cw' cf' s₀ s' → Q (.ref D) s')) E s) :
    wpAny (model prog w) A (eval (.Call (.Name "list" pl) [.Call (.Name "unique_everseen" pf) [e] [] pos] [] pos') (lawEnv L a)) Q E s := by
  obtain ⟨doc, pm, ct, an, ho⟩ := Z.U.fn
  refine Call_ (gb_builtin Z.G S.stay (v := .type "list") (by decide) (by decide +kernel) ?_ rfl rfl rfl rfl)
  refine callWith_type1 (args_cons (Call_ (gb_global Z.G S.stay (v := .ref 59) Z.G.ue ?_ rfl rfl rfl)))
  refine callWith_def (o := { cls := .type "function", data := .func (ueFn doc pm ct an) }) (fd := ueFn doc pm ct an) rfl (args_cons (wpAny_mono h (fun v s₂ h₂ => args_nil ?_) fun _ _ x => x) he) he
  obtain ⟨l, vs, ns, n', m', cw', cf', rfl, S', hl, hI, hlen, hQ⟩ := h₂
  have Z' := Z.keeps (S'.hide B)
  refine ⟨S'.stay _ _ ho, ?_⟩
  refine wpAny_mono (list_none (L := L) hh (by omega) hfr hLf kL Z'.T Z'.U Z'.G (fun b o q => of_hideAll _ q) ⟨_, S'.ns⟩ (hideAll_none _ (.tail _ (.head _))) (hide_list hl (list_not S' hl)) hI hlen fun D ys s' nD V hp hI' => hQ D ys s' nD V hp hI' (S'.lv B V)) (fun gv s₁ x => args_nil x) fun _ _ x => x
end
end
end Mine

namespace Mine
section
set_option linter.unusedVariables false

theorem uniq_firstsGo (f : Int → Int) : ∀ (ns : List Int) (S : Int → Bool) (p : List Int), (∀ k, S k = (p.map f).any (· == k)) → uniq f S ns = firstsGo f p ns
  | [], _, _, _ => rfl
  | x :: r, S, p, h => by
    unfold uniq firstsGo
    rw [h (f x)]
    cases hb : (p.map f).any (· == f x) with
    | true =>
      simp only [if_true]
      refine uniq_firstsGo f r S (p ++ [x]) fun k => ?_
      rw [h k, List.map_append, List.any_append]
      by_cases q : f x = k
      · subst q; rw [hb]; rfl
      · have : (f x == k) = false := beq_eq_false_iff_ne.mpr q
        simp [this]
    | false =>
      simp only [Bool.false_eq_true, if_false]
      refine congrArg (x :: ·) (uniq_firstsGo f r _ (p ++ [x]) fun k => ?_)
      rw [h k, List.map_append, List.any_append]
      by_cases q : f x = k
      · simp [q]
      · have h1 : (f x == k) = false := beq_eq_false_iff_ne.mpr q
        have h2 : ¬ k = f x := fun e => q e.symm
        simp [h1, h2]

theorem uniq_first (f : Int → Int) (ns : List Int) : uniq f (fun _ => false) ns = firstsGo f [] ns := uniq_firstsGo f ns _ [] fun k => rfl

theorem uniq_idem (f : Int → Int) : ∀ (ns : List Int) (S : Int → Bool), uniq f S (uniq f S ns) = uniq f S ns
  | [], _ => rfl
  | x :: r, S => by
    cases hS : S (f x) with
    | true => simp only [uniq, hS, if_true]; exact uniq_idem f r S
    | false => simp only [uniq, hS, Bool.false_eq_true, if_false]; rw [uniq_idem f r]

theorem firsts_idem (f : Int → Int) (ns : List Int) : uniq f (fun _ => false) (firstsGo f [] ns) = firstsGo f [] ns := by
  rw [← uniq_first, uniq_idem]

theorem uniq_or (f : Int → Int) (T : Int → Bool) : ∀ (ys : List Int) (S : Int → Bool), uniq f (fun k => T k || S k) ys = (uniq f S ys).filter fun x => !T (f x)
  | [], _ => rfl
  | x :: r, S => by
    cases hS : S (f x) with
    | true =>
      simp only [uniq, hS, Bool.or_true, if_true]
      exact uniq_or f T r S
    | false =>
      cases hT : T (f x) with
      | true =>
        simp only [uniq, hS, hT, Bool.or_false, if_true, Bool.false_eq_true, if_false]
        rw [List.filter_cons_of_neg (by simp [hT])]
        rw [← uniq_or f T r]
        congr 1
        funext k
        by_cases q : k = f x
        · subst q; simp [hT]
        · simp [q]
      | false =>
        simp only [uniq, hS, hT, Bool.or_false, Bool.false_eq_true, if_false]
        rw [List.filter_cons_of_pos (by simp [hT])]
        rw [← uniq_or f T r]
        congr 2
        funext k
        rw [Bool.or_assoc]

theorem uniq_append (f : Int → Int) (ys : List Int) : ∀ (xs : List Int) (S : Int → Bool), uniq f S (xs ++ ys) = uniq f S xs ++ uniq f (fun k => (xs.map f).any (· == k) || S k) ys
  | [], S => by simp [uniq]
  | x :: r, S => by
    rw [List.cons_append]
    cases hS : S (f x) with
    | true =>
      simp only [uniq, hS, if_true]
      rw [uniq_append f ys r S]
      congr 2
      funext k
      rw [List.map_cons, List.any_cons]
      by_cases q : f x = k
      · subst q; simp [hS]
      · have h1 : (f x == k) = false := beq_eq_false_iff_ne.mpr q
        rw [h1, Bool.false_or]
    | false =>
      simp only [uniq, hS, Bool.false_eq_true, if_false]
      rw [uniq_append f ys r, List.cons_append]
      congr 3
      funext k
      rw [List.map_cons, List.any_cons]
      by_cases q : f x = k
      · simp [q]
      · have h1 : (f x == k) = false := beq_eq_false_iff_ne.mpr q
        have h2 : ¬ k = f x := fun e => q e.symm
        simp [h1, h2]

theorem uniq_keys (f : Int → Int) (k : Int) : ∀ (xs : List Int) (S : Int → Bool), (((uniq f S xs).map f).any (· == k) || S k) = ((xs.map f).any (· == k) || S k)
  | [], _ => rfl
  | x :: r, S => by
    cases hS : S (f x) with
    | true =>
      simp only [uniq, hS, if_true]
      rw [uniq_keys f k r S, List.map_cons, List.any_cons]
      by_cases q : f x = k
      · subst q; simp [hS]
      · have h1 : (f x == k) = false := beq_eq_false_iff_ne.mpr q
        rw [h1, Bool.false_or]
    | false =>
      simp only [uniq, hS, Bool.false_eq_true, if_false]
      rw [List.map_cons, List.any_cons, List.map_cons, List.any_cons]
      have ih := uniq_keys f k r (fun k' => S k' || decide (k' = f x))
      by_cases q : f x = k
      · simp [q]
      · have h1 : (f x == k) = false := beq_eq_false_iff_ne.mpr q
        have h2 : ¬ k = f x := fun e => q e.symm
        simp only [h2, decide_false, Bool.or_false] at ih
        rw [h1, Bool.false_or, Bool.false_or]
        exact ih

/-- of two rows one behind the other -/
theorem firsts_two (f : Int → Int) (xs ys : List Int) :
    uniq f (fun _ => false) (xs ++ ys) = firstsGo f [] xs ++ (firstsGo f [] ys).filter fun x => !(((firstsGo f [] xs).map f).any (· == f x)) := by
  rw [uniq_append, ← uniq_first, ← uniq_first]
  congr 1
  have e : (fun k => (xs.map f).any (· == k) || (fun _ => false) k) = fun k => ((uniq f (fun _ => false) xs).map f).any (· == k) || (fun _ => false) k := by
    funext k
    exact (uniq_keys f k xs (fun _ => false)).symm
  rw [e, uniq_or]

theorem mem_firsts (f : Int → Int) : ∀ (ns p : List Int) (x : Int), x ∈ firstsGo f p ns → x ∈ ns
  | [], _, _, h => by cases h
  | y :: r, p, x, h => by
    unfold firstsGo at h
    split at h
    · exact List.mem_cons_of_mem _ (mem_firsts f r _ x h)
    · rcases List.mem_cons.mp h with rfl | h
      · exact List.mem_cons_self
      · exact List.mem_cons_of_mem _ (mem_firsts f r _ x h)
theorem len_firsts (f : Int → Int) : ∀ (ns p : List Int), (firstsGo f p ns).length ≤ ns.length
  | [], _ => Nat.le_refl _
  | y :: r, p => by
    unfold firstsGo
    split
    · exact Nat.le_succ_of_le (len_firsts f r _)
    · exact Nat.succ_le_succ (len_firsts f r _)
end
end Mine

namespace Mine
section
set_option maxRecDepth 100000
set_option linter.unusedVariables false
open PySem.Builtin

abbrev restSc : Scope := { kind := .function, names := [(Str.ofString ".0", .local), (Str.ofString "one", .local), (Str.ofString "first", .free), (Str.ofString "way", .free)], isGenerator := false, isCoroutine := false, more := [] }
abbrev restCl (L : Addr) : List (Str × Addr) := [("way", L + 1), ("first", L + 1 + 1)]
theorem rest_clos (L a : Addr) : closureFor restSc (lawEnv L a) = pure (restCl L) := by with_unfolding_all rfl
theorem rest_clos2 (C L a : Addr) : closureFor wsc (compEnvC restSc (restCl L) C (lawEnv L a)) = pure [(("way" : Str), L + 1)] := by with_unfolding_all rfl

/-- the comprehension's test, over a list's values -/
def restP (f : Int → Int) (fs : List Int) : Value → Bool
  | .int k _ => !((fs.map f).any (· == f k))
  | _ => false
theorem filter_ints (f : Int → Int) (fs : List Int) : ∀ {vs : List Value} {ns : List Int}, IntsAre vs ns → IntsAre (vs.filter (restP f fs)) (ns.filter fun x => !((fs.map f).any (· == f x)))
  | _, _, .nil => .nil
  | _, _, .cons n t h => by
    cases hp : !((fs.map f).any (· == f n)) with
    | true =>
      rw [List.filter_cons_of_pos (by exact hp), List.filter_cons_of_pos (by exact hp)]
      exact .cons n t (filter_ints f fs h)
    | false =>
      rw [List.filter_cons_of_neg (by simp only [restP]; rw [hp]; exact Bool.false_ne_true), List.filter_cons_of_neg (by rw [hp]; exact Bool.false_ne_true)]
      exact filter_ints f fs h
theorem paired_eq {vs ys : List Value} (h : Paired (fun v y => v = y) vs ys) : vs = ys := by
  induction h with
  | nil => rfl
  | cons h _ ih => rw [h, ih]

section
variable {prog : Program} {w : World} {A : Around} {E : Value → Shared → Prop} {s₀ s : Shared} {hb : Heap} {K : Frag} {mg mb : Str → Option Value} {L a r : Addr} {n : Nat} {m : Str → Option Value} {cw cf : Option Value} {vs : List Value} {ns : List Int}

theorem LS.set' {m' : Str → Option Value} {h' : Heap} {tk : Nat} (B : LB hb L) (X : LS hb L n m cw cf s₀ s) (hn : h'.Ns L m') (k : ∀ b o, b ≠ L → s.heap.get? b = some o → h'.get? b = some o) : LS hb L n m' cw cf s₀ { s with heap := h', toks := tk } :=
  ⟨fun b o e => k b o (fun q => by rw [q, B.nL] at e; cases e) (X.stay b o e), hn, cell_at X.way fun o e => k _ o (ne1 L) e, cell_at X.first fun o e => k _ o (ne2 L) e,
    let ⟨ps, e, q⟩ := X.tab; ⟨ps, k _ _ (Nat.ne_of_lt B.lt) e, q⟩, X.bare, X.os⟩

theorem law_rest {wf D₁ : Addr} {f : Int → Int} {zs : List Value} {fs : List Int} {iter : Expr} {py pos spos q₁ q₂ q₃ q₄ q₅ q₆ q₇ p₁ p₂ p₃ p₄ p₅ : Pos} {Q : Flow → Shared → Prop} (hh : A.handled = none) (hroom : A.depth + 8 < recursionLimit) (B : LB hb L) (W : WayAt prog w hb f wf)
    (hsw : swapsWith (.ListComp (.Name "one" q₁) [⟨.Name "one" q₂, iter, [.Compare (.Call (.Name "way" q₃) [.Name "one" q₄] [] q₅) [.NotIn] [waysE (.Name "first" q₆) p₁ p₂ p₃ p₄ p₅] q₇], 0⟩] restSc pos) (some (.Name "rest" py)) spos.line (lawEnv L a) = pure true)
    (hfz : ∀ x, foldedSetIterable iter (lawEnv L a) x = pure x)
    (h : wpAny (model prog w) A (eval iter (lawEnv L a)) (fun v s₁ => ∃ l us gs, v = .ref l ∧ LS hb L n m (some (.ref wf)) (some (.ref D₁)) s₀ s₁ ∧ s₁.heap.IsList l (us : List Value).toArray ∧ IntsAre us gs ∧ (∀ x ∈ gs, 0 ≤ x ∧ x < 12) ∧ gs.length ≤ 60 ∧
      s₁.heap.IsList D₁ zs.toArray ∧ IntsAre zs fs ∧ (∀ x ∈ fs, 0 ≤ x ∧ x < 12) ∧ fs.length ≤ 60 ∧
      (∀ D h' tk ys, (∀ b o, b ≠ L → s₁.heap.get? b = some o → h'.get? b = some o) → s₁.heap.get? D = none → h'.PlainList D (ys : List Value).toArray → IntsAre ys (gs.filter fun x => !((fs.map f).any (· == f x))) →
        LS hb L n (fun y => if y = "rest" then some (.ref D) else m y) (some (.ref wf)) (some (.ref D₁)) s₀ { s₁ with heap := h', toks := tk } → Q .next { s₁ with heap := h', toks := tk })) E s) :
    wpAny (model prog w) A (exec (.Assign [.Name "rest" py] (.ListComp (.Name "one" q₁) [⟨.Name "one" q₂, iter, [.Compare (.Call (.Name "way" q₃) [.Name "one" q₄] [] q₅) [.NotIn] [waysE (.Name "first" q₆) p₁ p₂ p₃ p₄ p₅] q₇], 0⟩] restSc pos) spos) (lawEnv L a)) Q E s := by
  refine wpAny_Assign_ListComp_free (restP f fs) (fun v y => v = y) hsw (rest_clos L a) (by decide) rfl (by decide) (by rfl) (by rfl) (by rfl) (wpAny_mono h (fun v s₁ h₁ => ?_) fun _ _ x => x) hfz
  obtain ⟨l, us, gs, rfl, S, hl, hI, hgs, hlen, hD₁, hIz, hfs, hlf, hQ⟩ := h₁
  refine wpAny_pyIter_list hl ?_
  have hll : l < s₁.heap.objs.size := let ⟨_, e, _⟩ := hl; Heap.lt_size e
  have up : ∀ b o, s₁.heap.get? b = some o → (s₁.heap.push { cls := .type "list_iterator", data := .fields #[.ref l, .int 0 0] }).get? b = some o := fun b o e => Heap.get?_push_of_some _ e
  have nI : s₁.heap.get? s₁.heap.objs.size = none := Heap.get?_none_of_le (Nat.le_refl _)
  have neI : ∀ b o, s₁.heap.get? b = some o → b ∉ [s₁.heap.objs.size] := fun b o e q => by rw [List.mem_singleton.mp q, nI] at e; cases e
  refine ⟨s₁.heap.objs.size, [s₁.heap.objs.size, l], [s₁.heap.objs.size], us.toArray.size, _, _, m, rfl, Walks.list hh _ l (Nat.ne_of_lt hll) us.toArray, ?_, ⟨⟨_, Heap.get?_push_size _ rfl, rfl, rfl⟩, hl.push _⟩, ?_, ?_, S.ns.push _, ⟨?_, ?_⟩, ?_⟩
  · rw [sizeLine_eq, List.size_toArray, hI.length]; omega
  · intro b hb'
    rcases List.mem_cons.mp hb' with rfl | hb'
    · show _ < (s₁.heap.push _).objs.size; rw [Heap.size_push]; exact Nat.lt_succ_self _
    · rw [List.mem_singleton.mp hb']; show _ < (s₁.heap.push _).objs.size; rw [Heap.size_push]; exact Nat.lt_succ_of_lt hll
  · obtain ⟨o, _, _, e, _⟩ := S.ns
    exact neI _ _ e
  · intro C i v s₃ m₃ E' hC hv hn hm hk _
    have kp : ∀ b o, s₁.heap.get? b = some o → s₃.heap.get? b = some o := fun b o e => hk b o (neI b o e) (up b o e)
    have hlt : i < gs.length := by
      have := (Array.getElem?_eq_some_iff.mp hv).1
      rwa [List.size_toArray, hI.length] at this
    obtain ⟨tx, hvx⟩ := hI.get i _ (List.getElem?_eq_getElem hlt)
    rw [List.getElem?_toArray] at hv
    have hve : v = .int gs[i] tx := Option.some.inj (hv.symm.trans hvx)
    have hx := hgs _ (List.getElem_mem hlt)
    generalize gs[i] = x at *
    subst hve
    obtain ⟨o, fd, ho, hdat⟩ := W.fn
    have st₃ : hb.StaysIn s₃.heap := fun b o e => kp b o (S.stay b o e)
    have kw : Env.kindOf (compEnvC restSc (restCl L) C (lawEnv L a)) "way" = some .cell := relabel_free (env := lawEnv L a) rfl (by rfl) (by rfl)
    have kf : Env.kindOf (compEnvC restSc (restCl L) C (lawEnv L a)) "first" = some .cell := relabel_free (env := lawEnv L a) rfl (by rfl) (by rfl)
    have ko : Env.kindOf (compEnvC restSc (restCl L) C (lawEnv L a)) "one" = some .local := lookup_relabel_local (by rfl)
    rw [List.forIn_cons]
    show wpAny _ A (do let r ← (do let ok ← isTrue _ (compEnvC restSc (restCl L) C (lawEnv L a)) (eval _ (compEnvC restSc (restCl L) C (lawEnv L a))); pure (ForInStep.yield ok)); _) _ _ _
    refine wpAny_bind (wpAny_bind ?_)
    refine wpAny_isTrue_Compare1 (Call_ (wpAny_Name (wpAny_loadName_cell rfl kw (c := L + 1) (by rfl) (S.way.keeps kp) ?_)))
    refine callWith_def hdat (args_cons (wpAny_Name (wpAny_loadName_local rfl ko hn hm (args_nil ⟨st₃ _ _ ho, ?_⟩))))
    refine W.call _ _ _ _ tx _ (by omega) st₃ hx.1 hx.2 fun t' h₇ tk₇ hk₇ => ?_
    refine ways_comp (c := L + 1) hh (by omega) W (rest_clos2 C L a) (by rfl) rfl kw (wpAny_Name (wpAny_loadName_cell rfl kf (c := L + 1 + 1) (by rfl) ((S.first.keeps kp).keeps hk₇) ?_)) (fun _ => rfl)
    refine ⟨D₁, zs, fs, rfl, (hD₁.at fun o e => kp _ o e).at fun o e => hk₇ _ o e, hIz, hfs, hlf, (S.way.keeps kp).keeps hk₇, fun b o e => hk₇ _ _ (st₃ b o e), fun G h₉ tk₉ ws hk₉ nG hpG hIw => ?_⟩
    refine notin_list_ints hpG.isList hIw (wpAny_truthy_bool (wpAny_pure ?_))
    show wpAny _ A (forIn [] _ _) _ _ _
    rw [List.forIn_nil]
    exact wpAny_pure ⟨rfl, _, _, rfl, fun b o e => hk₉ _ _ (hk₇ _ _ e)⟩
  · intro C i v s₃ m₃ E' hC hv hpv hn hm hk _
    have ko : Env.kindOf (compEnvC restSc (restCl L) C (lawEnv L a)) "one" = some .local := lookup_relabel_local (by rfl)
    exact wpAny_Name (wpAny_loadName_local rfl ko hn hm ⟨rfl, s₃.heap, s₃.toks, rfl, fun _ _ e => e⟩)
  · intro D h' tk ys vs' hD hl' hpl hlen' hP hF hn' hk
    have e : vs' = us := by
      refine List.ext_getElem? fun j => ?_
      cases q : vs'[j]? with
      | some v => have := hP j v q; rw [List.getElem?_toArray] at this; exact this.symm
      | none =>
        have := List.getElem?_eq_none_iff.mp q
        rw [hlen', List.size_toArray] at this
        exact (List.getElem?_eq_none this).symm
    subst e
    have k' : ∀ b o, b ≠ L → s₁.heap.get? b = some o → h'.get? b = some o := fun b o hbL q => hk b o hbL (neI b o q) (up b o q)
    refine hQ D h' tk ys.toList k' ?_ (by simpa using hpl) (by rw [← paired_eq hF]; exact filter_ints f fs hI) (S.set' B hn' k')
    cases q : s₁.heap.get? D with
    | none => rfl
    | some o => have := up _ _ q; rw [hD] at this; cases this
end
end
end Mine

namespace Mine
section
set_option maxRecDepth 100000
set_option linter.unusedVariables false
open PySem.Builtin

def forStmt : Stmt := lawBody.getD 2 (.Pass ⟨0, 0, 0, 0⟩)
def turnBody : List Stmt := forBody forStmt

section
variable {prog : Program} {w : World} {A : Around} {E : Value → Shared → Prop} {s₀ s : Shared} {hb : Heap} {K : Frag} {mg mb : Str → Option Value} {L a r : Addr} {n : Nat} {m : Str → Option Value} {cw cf : Option Value} {vs : List Value} {ns : List Int}

theorem push2_get {h : Heap} {o₁ o₂ : Obj} (hf : o₂.isFreed = false) : ((h.push o₁).push o₂).get? (h.objs.size + 1) = some o₂ := by
  have := Heap.get?_push_size (h.push o₁) (o := o₂) hf
  rwa [Heap.size_push] at this
theorem push2_up {h : Heap} {o₁ o₂ : Obj} : ∀ b o, h.get? b = some o → ((h.push o₁).push o₂).get? b = some o := fun b o e => Heap.get?_push_of_some _ (Heap.get?_push_of_some _ e)
theorem push2_new {h : Heap} : h.get? (h.objs.size + 1) = none := Heap.get?_none_of_le (Nat.le_succ _)

theorem law_upto {p₁ p₂ p₃ p₄ : Pos} {x : Str} {k : Int} {t : Tok} {Q : Value → Shared → Prop} (S : LS hb L n m cw cf s₀ s) (mr : m "row" = some (.ref r)) (hx : m x = some (.int k t)) (h0 : 0 ≤ k) (hl : s.heap.IsList r vs.toArray) (hI : IntsAre vs ns) (hlen : ns.length ≤ 60)
    (hQ : ∀ D h' tk ys, (∀ b o, s.heap.get? b = some o → h'.get? b = some o) → s.heap.get? D = none → h'.PlainList D (ys : List Value).toArray → IntsAre ys (ns.take k.toNat) → LS hb L n m cw cf s₀ { s with heap := h', toks := tk } → Q (.ref D) { s with heap := h', toks := tk })
    (hkx : (lawEnv L a).kindOf x = some .local := by rfl) (hd : (x == ("__debug__" : Str)) = false := by decide) :
    wpAny (model prog w) A (eval (.Subscript (.Name "row" p₁) (.Slice none (some (.Name x p₂)) none p₃) p₄) (lawEnv L a)) Q E s := by
  refine wpAny_Subscript_list_slice (law_ld S mr (evalPart_none_step (evalPart_some_step (law_ld S hx ?_ hkx hd)))) (fun _ _ => rfl)
  refine ⟨r, vs.toArray, none, some k, rfl, hl, by rw [sizeLine_eq, List.size_toArray, hI.length]; omega, .none, .int _ _, ?_⟩
  exact hQ _ _ s.toks (slicePick vs.toArray none (some k) none).toList push2_up push2_new ⟨0, by rw [push2_get rfl]⟩ (slice_ints_uptoW hI h0) (S.ext push2_up)
theorem law_from {p₁ p₂ p₃ p₄ : Pos} {x : Str} {k : Int} {t : Tok} {Q : Value → Shared → Prop} (S : LS hb L n m cw cf s₀ s) (mr : m "row" = some (.ref r)) (hx : m x = some (.int k t)) (h0 : 0 ≤ k) (hl : s.heap.IsList r vs.toArray) (hI : IntsAre vs ns) (hlen : ns.length ≤ 60)
    (hQ : ∀ D h' tk ys, (∀ b o, s.heap.get? b = some o → h'.get? b = some o) → s.heap.get? D = none → h'.PlainList D (ys : List Value).toArray → IntsAre ys (ns.drop k.toNat) → LS hb L n m cw cf s₀ { s with heap := h', toks := tk } → Q (.ref D) { s with heap := h', toks := tk })
    (hkx : (lawEnv L a).kindOf x = some .local := by rfl) (hd : (x == ("__debug__" : Str)) = false := by decide) :
    wpAny (model prog w) A (eval (.Subscript (.Name "row" p₁) (.Slice (some (.Name x p₂)) none none p₃) p₄) (lawEnv L a)) Q E s := by
  refine wpAny_Subscript_list_slice (law_ld S mr (evalPart_some_step (law_ld S hx (evalPart_none_step ?_) hkx hd))) (fun _ _ => rfl)
  refine ⟨r, vs.toArray, some k, none, rfl, hl, by rw [sizeLine_eq, List.size_toArray, hI.length]; omega, .int _ _, .none, ?_⟩
  exact hQ _ _ s.toks (slicePick vs.toArray (some k) none none).toList push2_up push2_new ⟨0, by rw [push2_get rfl]⟩ (slice_ints_fromW hI h0) (S.ext push2_up)

theorem LS.ne (S : LS hb L n m cw cf s₀ s) {D : Addr} (nD : s.heap.get? D = none) : D ≠ L ∧ D ≠ L + 1 ∧ D ≠ L + 1 + 1 := by
  obtain ⟨o, _, _, e, _⟩ := S.ns
  obtain ⟨o1, e1, _⟩ := S.way
  obtain ⟨o2, e2, _⟩ := S.first
  exact ⟨Ne.symm (fresh_ne e nD), Ne.symm (fresh_ne e1 nD), Ne.symm (fresh_ne e2 nD)⟩

theorem law_turn {wf : Addr} {f : Int → Int} {hf : Int} {th : Tok} (hh : A.handled = none) (hroom : A.depth + 8 < recursionLimit) (hu : A.units + 64 < cLine) (Z : Base K mg mb hb) (B : LB hb L) (S : LS hb L n m (some (.ref wf)) cf s₀ s) (W : WayAt prog w hb f wf)
    (hr : hb.IsList r vs.toArray) (hI : IntsAre vs ns) (hns : ∀ x ∈ ns, 0 ≤ x ∧ x < 12) (hlen : ns.length ≤ 60) (mr : m "row" = some (.ref r)) (mh : m "half" = some (.int hf th)) (h0 : 0 ≤ hf) :
    wpAny (model prog w) A (execs turnBody (lawEnv L a)) (fun fl s' => fl = .next ∧ ∃ m' cf', LS hb L n m' (some (.ref wf)) cf' s₀ s' ∧ m' "row" = some (.ref r) ∧ m' "half" = some (.int hf th)) E s := by
  have rl : ∀ {s' : Shared}, hb.StaysIn s'.heap → s'.heap.IsList r vs.toArray := fun k => hr.at fun o e => k _ o e
  -- due
  refine wpAny_execs_cons (wpAny_Assign_Name (law_firsts hh hroom Z B S rfl rfl (law_ld S mr (law_ldWay S ⟨r, vs, ns, wf, f, n, m, _, _, rfl, rfl, S, W.keeps (S.hide B), rl S.stay, hI, hns, hlen, fun D h₁ tk₁ ys up₁ nD hp₁ hI₁ S₁ => ?_⟩))))
  have DL := S.ne nD
  refine law_st B S₁ fun h₂ tk₂ S₂ hs₂ => ?_
  have hp₂ : h₂.PlainList D ys.toArray := hp₁.extBut hs₂.extBut DL.1
  have mr₂ : (fun y => if y = ("due" : Str) then some (Value.ref D) else m y) "row" = some (.ref r) := by show (if _ then _ else _) = _; rw [if_neg (by decide)]; exact mr
  have mh₂ : (fun y => if y = ("due" : Str) then some (Value.ref D) else m y) "half" = some (.int hf th) := by show (if _ then _ else _) = _; rw [if_neg (by decide)]; exact mh
  have md₂ : (fun y => if y = ("due" : Str) then some (Value.ref D) else m y) "due" = some (.ref D) := by show (if _ then _ else _) = _; rw [if_pos rfl]
  -- the first compare
  refine wpAny_execs_cons (wpAny_If (isTrue_or (wpAny_isTrue_Compare1 (law_list_key hh hroom Z B S₂ rfl (law_ld S₂ mr₂ (law_ldWay S₂ ⟨r, vs, ns, wf, f, n, _, _, _, rfl, rfl, S₂, W.keeps (S₂.hide B), rl S₂.stay, hI, hns, hlen, fun D₃ ys₃ s₃ nD₃ V₃ hp₃ hI₃ S₃ => ?_⟩))))))
  have hp₃' : s₃.heap.PlainList D ys.toArray := hp₂.at fun o e => V₃.keep _ o DL.1 e
  refine law_ld S₃ md₂ (ne_intsK hp₃.isList hI₃ hp₃'.isList hI₁ hu (wpAny_truthy_bool ?_))
  rw [uniq_first, decide_eq_true rfl]
  -- the second
  refine isTrue_or (wpAny_isTrue_Compare1 (law_list_pos hh hroom Z B S₃ rfl rfl (law_ld S₃ md₂ (law_ldWay S₃ ⟨D, ys, firstsGo f [] ns, wf, f, n, _, _, _, rfl, rfl, S₃, W.keeps (S₃.hide B), hp₃'.isList, hI₁, fun x hx => hns x (mem_firsts f ns [] x hx), Nat.le_trans (len_firsts f ns []) hlen, fun D₄ ys₄ s₄ nD₄ V₄ hp₄ hI₄ S₄ => ?_⟩))))
  have hp₄' : s₄.heap.PlainList D ys.toArray := hp₃'.at fun o e => V₄.keep _ o DL.1 e
  refine law_ld S₄ md₂ (ne_intsK hp₄.isList hI₄ hp₄'.isList hI₁ hu (wpAny_truthy_bool ?_))
  rw [firsts_idem, decide_eq_true rfl]
  refine isTrue_or_nil ?_
  show wpAny _ _ (execs [] _) _ _ _
  refine wpAny_execs_nil ?_
  -- first
  refine wpAny_execs_cons (wpAny_Assign_Name (law_firsts hh hroom Z B S₄ rfl rfl (law_upto S₄ mr₂ mh₂ h0 (rl S₄.stay) hI hlen fun D₅ h₅ tk₅ ys₅ up₅ nD₅ hl₅ hI₅ S₅ => law_ldWay S₅ ⟨D₅, ys₅, ns.take hf.toNat, wf, f, n, _, _, _, rfl, rfl, S₅, W.keeps (S₅.hide B), hl₅.isList, hI₅, fun x hx => hns x (List.mem_of_mem_take hx), by rw [List.length_take]; omega, fun D₆ h₆ tk₆ ys₆ up₆ nD₆ hp₆ hI₆ S₆ => ?_⟩)))
  refine law_stFirst B S₆ fun h₇ S₇ hs₇ => ?_
  have D6 := S₅.ne nD₆
  have hp₇ : h₇.PlainList D₆ ys₆.toArray := hp₆.extBut hs₇.extBut D6.2.2
  -- rest
  refine wpAny_execs_cons (law_rest (s₀ := s₀) (n := n) (m := fun y => if y = ("due" : Str) then some (Value.ref D) else m y) (D₁ := D₆) (zs := ys₆) (fs := firstsGo f [] (ns.take hf.toNat)) hh hroom B W (by rfl) (fun _ => rfl) (law_firsts hh hroom Z B S₇ rfl rfl (law_from S₇ mr₂ mh₂ h0 (rl S₇.stay) hI hlen fun D₈ h₈ tk₈ ys₈ up₈ nD₈ hp₈ hI₈ S₈ => law_ldWay S₈ ⟨D₈, ys₈, ns.drop hf.toNat, wf, f, n, _, _, _, rfl, rfl, S₈, W.keeps (S₈.hide B), hp₈.isList, hI₈, fun x hx => hns x (List.mem_of_mem_drop hx), by rw [List.length_drop]; omega, fun D₉ h₉ tk₉ ys₉ up₉ nD₉ hp₉ hI₉ S₉ => ?_⟩)))
  have hp₉' : h₉.PlainList D₆ ys₆.toArray := (hp₇.at fun o e => up₈ _ o e).at fun o e => up₉ _ o e
  refine ⟨D₉, ys₉, firstsGo f [] (ns.drop hf.toNat), rfl, S₉, hp₉.isList, hI₉, fun x hx => hns x (List.mem_of_mem_drop (mem_firsts f _ [] x hx)), Nat.le_trans (len_firsts f _ []) (by rw [List.length_drop]; omega), hp₉'.isList, hI₆, fun x hx => hns x (List.mem_of_mem_take (mem_firsts f _ [] x hx)), Nat.le_trans (len_firsts f _ []) (by rw [List.length_take]; omega), fun D₁₀ h₁₀ tk₁₀ ys₁₀ k₁₀ nD₁₀ hp₁₀ hI₁₀ S₁₀ => ?_⟩
  have D10 := S₉.ne nD₁₀
  have hp₁₀' : h₁₀.PlainList D₆ ys₆.toArray := hp₉'.at fun o e => k₁₀ _ o D6.1 e
  have mr' : (fun y => if y = ("rest" : Str) then some (Value.ref D₁₀) else if y = ("due" : Str) then some (Value.ref D) else m y) "row" = some (.ref r) := by show (if _ then _ else if _ then _ else _) = _; rw [if_neg (by decide), if_neg (by decide)]; exact mr
  have mh' : (fun y => if y = ("rest" : Str) then some (Value.ref D₁₀) else if y = ("due" : Str) then some (Value.ref D) else m y) "half" = some (.int hf th) := by show (if _ then _ else if _ then _ else _) = _; rw [if_neg (by decide), if_neg (by decide)]; exact mh
  have mt' : (fun y => if y = ("rest" : Str) then some (Value.ref D₁₀) else if y = ("due" : Str) then some (Value.ref D) else m y) "rest" = some (.ref D₁₀) := by show (if _ then _ else _) = _; rw [if_pos rfl]
  -- the last compare
  refine wpAny_execs_cons (wpAny_If (wpAny_isTrue_Compare1 (law_list_pos hh hroom Z B S₁₀ rfl rfl (wpAny_BinOp (law_upto S₁₀ mr' mh' h0 (rl S₁₀.stay) hI hlen fun Da ha ta ya upa nDa hpa hIa Sa => law_from Sa mr' mh' h0 (rl Sa.stay) hI hlen fun Db hb' tb yb upb nDb hpb hIb Sb => ?_)))))
  obtain ⟨ca, ea⟩ := hpa.at fun o e => upb _ o e
  obtain ⟨cb, eb⟩ := hpb
  have la : ya.length ≤ 60 := by rw [hIa.length, List.length_take]; omega
  have lb : yb.length ≤ 60 := by rw [hIb.length, List.length_drop]; omega
  refine P.add_list ea eb ?_ (by rw [sizeLine_eq, List.size_toArray, List.size_toArray]; omega)
  have upc : ∀ b o, hb'.get? b = some o → (hb'.push { cls := .type "list", data := .seq (ya.toArray ++ yb.toArray) }).get? b = some o := fun b o e => Heap.get?_push_of_some _ e
  have hpc : (hb'.push { cls := .type "list", data := .seq (ya.toArray ++ yb.toArray) }).PlainList hb'.objs.size (ya ++ yb).toArray := ⟨0, by rw [Heap.get?_push_size _ rfl]; simp⟩
  have hIc : IntsAre (ya ++ yb) ns := by have := hIa.append hIb; rwa [List.take_append_drop] at this
  have Sc := Sb.ext (tk := tb) upc
  refine law_ldWay Sc ⟨hb'.objs.size, ya ++ yb, ns, wf, f, n, _, _, _, rfl, rfl, Sc, W.keeps (Sc.hide B), hpc.isList, hIc, hns, hlen, fun Dd yd sd nDd Vd hpd hId Sd => ?_⟩
  have hpd6 : sd.heap.PlainList D₆ ys₆.toArray := (((hp₁₀'.at fun o e => upa _ o e).at fun o e => upb _ o e).at fun o e => upc _ o e).at fun o e => Vd.keep _ o D6.1 e
  have hpd10 : sd.heap.PlainList D₁₀ ys₁₀.toArray := (((hp₁₀.at fun o e => upa _ o e).at fun o e => upb _ o e).at fun o e => upc _ o e).at fun o e => Vd.keep _ o D10.1 e
  obtain ⟨c6, e6⟩ := hpd6
  obtain ⟨c10, e10⟩ := hpd10
  have l6 : ys₆.length ≤ 60 := by rw [hI₆.length]; exact Nat.le_trans (len_firsts f _ []) (by rw [List.length_take]; omega)
  have l10 : ys₁₀.length ≤ 60 := by rw [hI₁₀.length]; exact Nat.le_trans (List.length_filter_le _ _) (Nat.le_trans (len_firsts f _ []) (by rw [List.length_drop]; omega))
  refine wpAny_BinOp (law_ldFirst Sd (law_ld Sd mt' (P.add_list e6 e10 ?_ (by rw [sizeLine_eq, List.size_toArray, List.size_toArray]; omega))))
  have upe : ∀ b o, sd.heap.get? b = some o → (sd.heap.push { cls := .type "list", data := .seq (ys₆.toArray ++ ys₁₀.toArray) }).get? b = some o := fun b o e => Heap.get?_push_of_some _ e
  have hpe : (sd.heap.push { cls := .type "list", data := .seq (ys₆.toArray ++ ys₁₀.toArray) }).PlainList sd.heap.objs.size (ys₆ ++ ys₁₀).toArray := ⟨0, by rw [Heap.get?_push_size _ rfl]; simp⟩
  refine ne_intsK (hpd.at fun o e => upe _ o e).isList hId hpe.isList (hI₆.append hI₁₀) hu (wpAny_truthy_bool ?_)
  have hlaw := firsts_two f (ns.take hf.toNat) (ns.drop hf.toNat)
  rw [List.take_append_drop] at hlaw
  rw [hlaw, decide_eq_true rfl]
  show wpAny _ _ (execs [] _) _ _ _
  exact wpAny_execs_nil (wpAny_execs_nil ⟨rfl, _, _, Sd.ext upe, mr', mh'⟩)
end
end
end Mine

namespace Mine
section
set_option maxRecDepth 100000
set_option linter.unusedVariables false
open PySem.Builtin

section
variable {prog : Program} {w : World} {A : Around} {E : Value → Shared → Prop} {s₀ s : Shared} {hb : Heap} {K : Frag} {mg mb : Str → Option Value} {L a r : Addr} {n : Nat} {m : Str → Option Value} {cw cf : Option Value} {vs : List Value} {ns : List Int}

theorem LS.here (B : LB hb L) (S : LS hb L n m cw cf s₀ s) : LB (hideAll s.heap (HL L)) L ∧ LS (hideAll s.heap (HL L)) L n m cw cf s₀ s :=
  ⟨⟨hideAll_none _ (.head _), hideAll_none _ (.tail _ (.head _)), hideAll_none _ (.tail _ (.tail _ (.head _))), hideAll_none _ (.tail _ (.tail _ (.tail _ (.head _)))), B.lt⟩, ⟨fun b o q => of_hideAll _ q, S.ns, S.way, S.first, S.tab, S.bare, S.os⟩⟩
theorem LS.lower {hb' : Heap} (k : hb.StaysIn hb') (S : LS hb' L n m cw cf s₀ s) : LS hb L n m cw cf s₀ s := ⟨fun b o q => S.stay _ _ (k b o q), S.ns, S.way, S.first, S.tab, S.bare, S.os⟩

/-- an iterator is none of what the law changes -/
theorem iter_not {It l : Addr} {i : Nat} (S : LS hb L n m cw cf s₀ s) (X : s.heap.IsListIter It l i) : It ∉ HL L := fun q => by
  obtain ⟨o, e, hc, hd⟩ := X
  rcases List.mem_cons.mp q with rfl | q
  · obtain ⟨ps, e', _⟩ := S.tab
    rw [e] at e'; cases e'; cases hc
  rcases List.mem_cons.mp q with rfl | q
  · obtain ⟨o', _, _, e', hd', _⟩ := S.ns
    rw [e] at e'; cases e'; rw [hd] at hd'; cases hd'
  rcases List.mem_cons.mp q with rfl | q
  · obtain ⟨o', e', hd'⟩ := S.way
    rw [e] at e'; cases e'; rw [hd] at hd'; cases hd'
  rw [List.mem_singleton.mp q] at e
  obtain ⟨o', e', hd'⟩ := S.first
  rw [e] at e'; cases e'; rw [hd] at hd'; cases hd'

theorem law_turn' {wf : Addr} {f : Int → Int} {hf : Int} {th : Tok} (hh : A.handled = none) (hroom : A.depth + 8 < recursionLimit) (hu : A.units + 64 < cLine) (Z : Base K mg mb hb) (B : LB hb L) (S : LS hb L n m (some (.ref wf)) cf s₀ s) (W : WayAt prog w hb f wf)
    (hr : hb.IsList r vs.toArray) (hI : IntsAre vs ns) (hns : ∀ x ∈ ns, 0 ≤ x ∧ x < 12) (hlen : ns.length ≤ 60) (mr : m "row" = some (.ref r)) (mh : m "half" = some (.int hf th)) (h0 : 0 ≤ hf) :
    wpAny (model prog w) A (execs turnBody (lawEnv L a)) (fun fl s' => fl = .next ∧ (∀ b o, b ∉ HL L → s.heap.get? b = some o → s'.heap.get? b = some o) ∧ ∃ m' cf', LS hb L n m' (some (.ref wf)) cf' s₀ s' ∧ m' "row" = some (.ref r) ∧ m' "half" = some (.int hf th)) E s := by
  obtain ⟨B', S'⟩ := S.here B
  refine wpAny_mono (law_turn hh hroom hu (Z.keeps (S.hide B)) B' S' (W.keeps (S.hide B)) (hr.at fun o e => S.hide B _ o e) hI hns hlen mr mh h0) (fun fl s' h => ?_) fun _ _ x => x
  obtain ⟨hfl, m', cf', S₁, h1, h2⟩ := h
  exact ⟨hfl, fun b o hb e => S₁.stay _ _ (hideAll_get _ e hb), m', cf', S₁.lower (S.hide B), h1, h2⟩

theorem law_ways {fs : List (Addr × (Int → Int))} {R : Result → Shared → Prop} {px : Pos} {It Lst : Addr} {hf : Int} {th : Tok} (hh : A.handled = none) (hroom : A.depth + 8 < recursionLimit) (hu : A.units + 64 < cLine) (Z : Base K mg mb hb) (B : LB hb L) (W : ∀ p ∈ fs, WayAt prog w hb p.2 p.1)
    (hr : hb.IsList r vs.toArray) (hI : IntsAre vs ns) (hns : ∀ x ∈ ns, 0 ≤ x ∧ x < 12) (hlen : ns.length ≤ 60) (h0 : 0 ≤ hf) (hl : hb.IsList Lst (fs.map fun p => Value.ref p.1).toArray) (hbI : hb.get? It = none)
    (hR : ∀ s' m' cw' cf', LS hb L n m' cw' cf' s₀ s' → m' "row" = some (.ref r) → m' "half" = some (.int hf th) → R (.ok .next) s')
    (S : LS hb L n m cw cf s₀ s) (mr : m "row" = some (.ref r)) (mh : m "half" = some (.int hf th)) (hit : s.heap.IsListIter It Lst 0) :
    codeAny (model prog w) A (.forLoop (.Name "way" px) (.ref It) turnBody [] (lawEnv L a)) R s := by
  refine codeAny_forLoop (fun k s' => ∃ j m' cw' cf', k = fs.length + 1 - j ∧ LS hb L n m' cw' cf' s₀ s' ∧ m' "row" = some (.ref r) ∧ m' "half" = some (.int hf th) ∧ s'.heap.IsListIter It Lst j ∧ j ≤ fs.length) ?_ (fs.length + 1) ⟨0, m, cw, cf, rfl, S, mr, mh, hit, Nat.zero_le _⟩
  rintro k s' ⟨j, m', cw', cf', rfl, S', mr', mh', hit', hj⟩
  have hl' : s'.heap.IsList Lst (fs.map fun p => Value.ref p.1).toArray := hl.at fun o e => S'.stay _ o e
  have nI := iter_not S' hit'
  have nIm : It ≠ L := fun q => nI (q ▸ .tail _ (.head _))
  have nI66 : It ≠ 66 := fun q => nI (q ▸ .head _)
  have nI1 : It ≠ L + 1 := fun q => nI (q ▸ .tail _ (.tail _ (.head _)))
  have nI2 : It ≠ L + 1 + 1 := fun q => nI (q ▸ .tail _ (.tail _ (.tail _ (.head _))))
  have move : ∀ {h : Heap} {tk : Nat}, (∀ b o, b ≠ It → s'.heap.get? b = some o → h.get? b = some o) → LS hb L n m' cw' cf' s₀ { s' with heap := h, toks := tk } := fun k => 
    ⟨fun b o e => k b o (fun q => by rw [q, hbI] at e; cases e) (S'.stay b o e), S'.ns.at' fun o e => k _ o (Ne.symm nIm) e, cell_at S'.way fun o e => k _ o (Ne.symm nI1) e, cell_at S'.first fun o e => k _ o (Ne.symm nI2) e, let ⟨ps, e, q⟩ := S'.tab; ⟨ps, k _ _ (Ne.symm nI66) e, q⟩, S'.bare, S'.os⟩
  by_cases hlt : j < fs.length
  · have hx : (fs.map fun p => Value.ref p.1).toArray[j]? = some (.ref fs[j].1) := by rw [List.getElem?_toArray, List.getElem?_map, List.getElem?_eq_getElem hlt]; rfl
    refine wpAny_pyNext_list_item hit' hl' hx fun h₁ hi₁ hs₁ => ?_
    have S₁ : LS hb L n m' cw' cf' s₀ { s' with heap := h₁ } := move (tk := s'.toks) fun b o hb e => hs₁.extBut b o hb e
    refine wpAny_assign_Name (law_stWay B S₁ fun h₂ S₂ hs₂ => ?_)
    have hi₂ : h₂.IsListIter It Lst (j + 1) := hi₁.extBut hs₂.extBut nI1
    refine wpAny_mono (law_turn' hh hroom hu Z B S₂ (W _ (List.getElem_mem hlt)) hr hI hns hlen mr' mh' h0) (fun fl s₃ h₃ => ?_) fun _ _ x => x
    obtain ⟨rfl, k₃, m₃, cf₃, S₃, mr₃, mh₃⟩ := h₃
    exact ⟨fs.length + 1 - (j + 1), by omega, j + 1, m₃, _, cf₃, rfl, S₃, mr₃, mh₃, hi₂.at fun o e => k₃ _ o nI e, hlt⟩
  · refine wpAny_pyNext_list_end hh hit' hl' (by rw [List.getElem?_toArray]; exact List.getElem?_eq_none (by rw [List.length_map]; omega)) fun h₁ he₁ => wpAny_execs_nil ?_
    exact hR _ m' cw' cf' (move (tk := s'.toks) fun b o hb e => he₁ b o hb e) mr' mh'
end
end
end Mine

namespace Mine
section
set_option maxRecDepth 100000
set_option linter.unusedVariables false
open PySem.Builtin

section
variable {prog : Program} {w : World} {A : Around} {E : Value → Shared → Prop} {s₀ s : Shared} {hb : Heap} {K : Frag} {mg mb : Str → Option Value} {L a r : Addr} {n : Nat} {m : Str → Option Value} {cw cf : Option Value} {vs : List Value} {ns : List Int}

theorem law_for {hf : Int} {th : Tok} {Q : Flow → Shared → Prop} (hh : A.handled = none) (hroom : A.depth + 8 < recursionLimit) (hu : A.units + 64 < cLine) (Z : Base K mg mb hb) (B : LB hb L) (hr : hb.IsList r vs.toArray) (hI : IntsAre vs ns) (hns : ∀ x ∈ ns, 0 ≤ x ∧ x < 12) (hlen : ns.length ≤ 60) (h0 : 0 ≤ hf)
    (S : LS hb L n m cw cf s₀ s) (hn : n ≤ 42) (mr : m "row" = some (.ref r)) (mh : m "half" = some (.int hf th))
    (hQ : ∀ s' m' cw' cf', LS hb L 45 m' cw' cf' s₀ s' → m' "row" = some (.ref r) → m' "half" = some (.int hf th) → Q .next s') : wpAny (model prog w) A (exec forStmt (lawEnv L a)) Q E s := by
  refine wpAny_For (List_ (args_cons (law_lam Z B S hn fun f₁ c₁ ct₁ pm₁ h₁ t₁ S₁ k₁ e₁ r₁ n₁ m₁ => args_cons (law_lam Z B S₁ (Nat.le_refl _) fun f₂ c₂ ct₂ pm₂ h₂ t₂ S₂ k₂ e₂ r₂ n₂ m₂ => args_cons (law_lam Z B S₂ (Nat.le_refl _) fun f₃ c₃ ct₃ pm₃ h₃ t₃ S₃ k₃ e₃ r₃ n₃ m₃ => args_nil ?_))))) (fun _ => rfl)
  refine wpAny_newList ?_
  have up₄ : ∀ b o, h₃.get? b = some o → (h₃.push { cls := .type "list", data := .seq [Value.ref f₁, .ref f₂, .ref f₃].toArray }).get? b = some o := fun b o q => Heap.get?_push_of_some _ q
  have hl₄ : (h₃.push { cls := .type "list", data := .seq [Value.ref f₁, .ref f₂, .ref f₃].toArray }).IsList h₃.objs.size [Value.ref f₁, .ref f₂, .ref f₃].toArray := ⟨_, Heap.get?_push_size _ rfl, rfl, _, rfl⟩
  have S₄ := S₃.ext (tk := t₃) up₄
  generalize h₃.push { cls := .type "list", data := .seq [Value.ref f₁, .ref f₂, .ref f₃].toArray } = h₄ at up₄ hl₄ S₄ ⊢
  generalize h₃.objs.size = Lst at hl₄ ⊢
  refine wpAny_pyIter_list hl₄ ?_
  have up₅ : ∀ b o, h₄.get? b = some o → (h₄.push { cls := .type "list_iterator", data := .fields #[.ref Lst, .int 0 0] }).get? b = some o := fun b o q => Heap.get?_push_of_some _ q
  have hi₅ : (h₄.push { cls := .type "list_iterator", data := .fields #[.ref Lst, .int 0 0] }).IsListIter h₄.objs.size Lst 0 := ⟨_, Heap.get?_push_size _ rfl, rfl, rfl⟩
  have nI : h₄.get? h₄.objs.size = none := Heap.get?_none_of_le (Nat.le_refl _)
  have hd₄ := S₄.hide B
  have Z₄ := Z.keeps hd₄
  have g : ∀ {f : Addr} {o : Obj}, f ∉ HL L → h₄.get? f = some o → (hideAll h₄ (HL L)).get? f = some o := fun hf e => hideAll_get _ e hf
  have ne66 : ∀ {f : Addr}, f ∉ HL L → f ≠ 66 := fun h q => h (q ▸ .head _)
  have w₁ : WayAt prog w (hideAll h₄ (HL L)) (fun v => v) f₁ := way_id (g n₁ (up₄ _ _ (k₃ _ _ (ne66 n₁) (k₂ _ _ (ne66 n₁) e₁)))) (codeRec_hide (let ⟨c, oc, v, t, q1, q2, q3, q4⟩ := r₁; by cases q1; exact ⟨_, oc, v, t, rfl, up₄ _ _ (k₃ _ _ (ne66 m₁) (k₂ _ _ (ne66 m₁) q2)), q3, q4⟩) m₁) Z₄.G.nolimit
  have w₂ : WayAt prog w (hideAll h₄ (HL L)) (fun v => v.fmod 5) f₂ := way_mod (g n₂ (up₄ _ _ (k₃ _ _ (ne66 n₂) e₂))) (codeRec_hide (let ⟨c, oc, v, t, q1, q2, q3, q4⟩ := r₂; by cases q1; exact ⟨_, oc, v, t, rfl, up₄ _ _ (k₃ _ _ (ne66 m₂) q2), q3, q4⟩) m₂) Z₄.G.nolimit
  have w₃ : WayAt prog w (hideAll h₄ (HL L)) (fun _ => 0) f₃ := way_zero (g n₃ (up₄ _ _ e₃)) (codeRec_hide (r₃.keeps up₄) m₃) Z₄.G.nolimit
  obtain ⟨B₄, S₄'⟩ := S₄.here B
  have S₅ := S₄'.ext (tk := t₃) up₅
  refine law_ways (fs := [(f₁, fun v => v), (f₂, fun v => v.fmod 5), (f₃, fun _ => 0)]) (n := 45) hh hroom hu Z₄ B₄ ?_ (hr.at fun o q => hd₄ _ o q) hI hns hlen h0 (hide_list hl₄ (list_not S₄ hl₄)) ?_ (fun s' m' cw' cf' S' mr' mh' => hQ s' m' cw' cf' (S'.lower hd₄) mr' mh') S₅ mr mh hi₅
  · intro p hp
    rcases List.mem_cons.mp hp with rfl | hp
    · exact w₁
    rcases List.mem_cons.mp hp with rfl | hp
    · exact w₂
    rw [List.mem_singleton.mp hp]; exact w₃
  · cases q : (hideAll h₄ (HL L)).get? h₄.objs.size with
    | none => rfl
    | some o => have := of_hideAll _ q; rw [nI] at this; cases this
end
end
end Mine

namespace Mine
section
set_option maxRecDepth 100000
set_option linter.unusedVariables false
open PySem.Builtin

section
variable {prog : Program} {w : World} {A : Around} {E : Value → Shared → Prop} {s : Shared} {vs : List Value} {ns : List Int}

theorem li_loop {R : Result → Shared → Prop} {S it l : Addr} {res : Value} {i : Nat} (hh : A.handled = none) (hI : IntsAre vs ns) (hlen : ns.length ≤ 60) (hitS : it ≠ S) (hlS : l ≠ S) (hli : l ≠ it) {h₀ : Heap} :
    ∀ (k j : Nat) (s : Shared) (acc : Array Value) (c : Nat) (done : List Int), ns.length - j = k → s.heap.IsListIter it l j → s.heap.IsList l vs.toArray → IntsAre acc.toList done → done ++ ns.drop j = ns.drop i →
      (∀ b o, b ≠ it → b ≠ S → h₀.get? b = some o → s.heap.get? b = some o) → s.heap.get? S = some { cls := .type "list", dict := none, data := .seq acc c, slots := #[] } →
      (∀ h' acc' c', h'.get? S = some { cls := .type "list", dict := none, data := .seq acc' c', slots := #[] } → IntsAre acc'.toList (ns.drop i) → (∀ b o, b ≠ it → b ≠ S → h₀.get? b = some o → h'.get? b = some o) → R (.ok (.ret res)) { s with heap := h' }) →
      codeAny (model prog w) A (.builtin "list.extend.loop" ⟨[.ref S, .ref it, res], []⟩) R s := by
  intro k
  induction k with
  | zero =>
    intro j s acc c done hk hit hl hd hdn hkeep hg hR
    refine codeAny_builtin F.entry_extend_loop ?_
    rw [Around.under_plainId F.plain_extend_loop _]
    show wpAny _ A.in1 (pyNext (.ref it) >>= _) _ _ s
    refine wpAny_bind (wpAny_pyNext_list_end hh hit hl (by rw [List.getElem?_toArray]; exact List.getElem?_eq_none (by rw [hI.length]; omega)) fun h' he => wpAny_pure ?_)
    refine hR h' acc c (he _ _ (Ne.symm hitS) hg) ?_ fun b o h1 h2 e => he _ _ h1 (hkeep b o h1 h2 e)
    rw [← hdn, List.drop_eq_nil_of_le (by omega), List.append_nil]
    exact hd
  | succ k ih =>
    intro j s acc c done hk hit hl hd hdn hkeep hg hR
    have hlt : j < ns.length := by omega
    obtain ⟨tx, hvx⟩ := hI.get j _ (List.getElem?_eq_getElem hlt)
    have hsp : ns.drop j = ns[j] :: ns.drop (j + 1) := List.drop_eq_getElem_cons hlt
    generalize ns[j] = x at *
    refine codeAny_builtin F.entry_extend_loop ?_
    rw [Around.under_plainId F.plain_extend_loop _]
    show wpAny _ A.in1 (pyNext (.ref it) >>= _) _ _ s
    refine wpAny_bind (wpAny_pyNext_list_item hit hl (by rw [List.getElem?_toArray]; exact hvx) fun h₁ hi₁ hs₁ => ?_)
    have hS₁ := hs₁.extBut _ _ (Ne.symm hitS) hg
    have hsz : acc.size ≤ 60 := by
      have h1 := hd.length
      have h2 := congrArg List.length hdn
      rw [List.length_append, List.length_drop, List.length_drop] at h2
      rw [Array.length_toList] at h1
      omega
    show wpAny _ A.in1 (updateSeq S (·.push (.int x tx)) >>= _) _ _ _
    refine wpAny_bind (wpAny_updateSeq hS₁ rfl (wpAny_pure ⟨plainId_quiet F.plain_extend_loop _, ?_⟩) (by rw [sizeLine_eq]; omega) (by show (acc.push _).size ≤ sizeLine + 1; rw [Array.size_push, sizeLine_eq]; omega))
    have oth : ∀ b o, b ≠ S → h₁.get? b = some o → (h₁.update S (Obj.mapSeq (·.push (.int x tx)))).get? b = some o := fun b o hb e => (Heap.get?_update_other _ _ (Ne.symm hb)).trans e
    refine ih (j + 1) _ (acc.push (.int x tx)) _ (done ++ [x]) (by omega) (hi₁.at fun o e => oth _ o hitS e) ((hl.extBut hs₁.extBut hli).at fun o e => oth _ o hlS e) ?_ (by rw [List.append_assoc, List.singleton_append, ← hsp]; exact hdn)
      (fun b o h1 h2 e => oth _ _ h2 (hs₁.extBut _ _ h1 (hkeep b o h1 h2 e))) (Heap.get?_update_self _ hS₁ rfl) fun h' acc' c' e1 e2 e3 => hR h' acc' c' e1 e2 e3
    rw [Array.toList_push]
    exact hd.append (.cons _ _ .nil)

theorem list_listiter {it l : Addr} {i : Nat} {Q : Value → Shared → Prop} (hh : A.handled = none) (hit : s.heap.IsListIter it l i) (hl : s.heap.IsList l vs.toArray) (hI : IntsAre vs ns) (hlen : ns.length ≤ 60)
    (hQ : ∀ D h' ys, s.heap.get? D = none → (∀ b o, b ≠ it → s.heap.get? b = some o → h'.get? b = some o) → h'.PlainList D (ys : List Value).toArray → IntsAre ys (ns.drop i) → Q (.ref D) { s with heap := h' }) :
    wpAny (model prog w) A (call (.type "list") [.ref it]) Q E s := by
  refine callType_codes (Q₁ := fun obj s₁ => obj = .ref s.heap.objs.size ∧ s₁ = { s with heap := s.heap.push { cls := .type "list", data := .seq #[] } }) F.called_list (F.typeCall_list_1 _) F.entry_list_init
    (code_list_new _ ⟨rfl, rfl⟩) fun obj s₁ h₁ => ?_
  obtain ⟨rfl, rfl⟩ := h₁
  have hS : (s.heap.push { cls := .type "list", data := .seq #[] }).get? s.heap.objs.size = some { cls := .type "list", data := .seq #[] } := Heap.get?_push_size _ rfl
  have hSn : s.heap.get? s.heap.objs.size = none := Heap.get?_none_of_le (Nat.le_refl _)
  generalize hSz : s.heap.objs.size = S at hS hSn ⊢
  generalize hH : s.heap.push { cls := .type "list", data := .seq #[] } = H at hS ⊢
  have up : ∀ b o, s.heap.get? b = some o → H.get? b = some o := fun b o e => hH ▸ Heap.get?_push_of_some _ e
  have hitS : it ≠ S := by obtain ⟨o, e, _⟩ := hit; exact fresh_ne e hSn
  have hlS : l ≠ S := by obtain ⟨o, e, _⟩ := hl; exact fresh_ne e hSn
  have hli : l ≠ it := fun z => by obtain ⟨o, ho, hc, _⟩ := hit; obtain ⟨o', ho', hc', _⟩ := hl; rw [z, ho] at ho'; cases ho'; rw [hc] at hc'; exact absurd hc' (by decide)
  refine ⟨⟨_, hS, rfl⟩, F.args_list_init_2 _ _, ?_⟩
  show wpAny _ A.in1.in1 (do let old ← Builtin.List.listItems (.ref S); Builtin.List.listUpdate (.ref S) (fun _ => #[]); letGo old.toList.reverse; Builtin.List.listExtendWith (.ref S) (.ref it) .none) _ _ _
  refine wpAny_bind ?_
  unfold Builtin.List.listItems
  refine wpAny_bind (wpAny_seqItems hS rfl (wpAny_pure ?_))
  show wpAny _ A.in1.in1 (updateSeq S (fun _ => #[]) >>= fun _ => letGo (#[] : Array Value).toList.reverse >>= fun _ => Builtin.List.listExtendWith (.ref S) (.ref it) .none) _ _ _
  refine wpAny_bind (wpAny_updateSeq hS rfl ?_)
  have hS₂ := Heap.get?_update_self (Obj.mapSeq (fun _ => (#[] : Array Value))) hS rfl
  have oth₂ : ∀ b o, ¬ (b = S) → H.get? b = some o → (H.update S (Obj.mapSeq (fun _ => (#[] : Array Value)))).get? b = some o :=
    fun b o hb e => (Heap.get?_update_other _ _ (fun q : S = b => hb q.symm)).trans e
  generalize hH2 : H.update S (Obj.mapSeq (fun _ => (#[] : Array Value))) = H2 at hS₂ oth₂ ⊢
  have hit₂ : H2.IsListIter it l i := hit.at fun o e => oth₂ _ o hitS (up _ _ e)
  have hl₂ : H2.IsList l vs.toArray := hl.at fun o e => oth₂ _ o hlS (up _ _ e)
  refine wpAny_bind (wpAny_letGo ?_)
  unfold Builtin.List.listExtendWith
  have hT : (⟨H2, s.gens, s.drawn, s.toks, s.os⟩ : Shared).TypeIs (.ref it) "list_iterator" := hit₂.typeIs
  refine wpAny_bind (wpAny_typeOf hT ?_)
  have h1 : Builtin.List.listSameRef (.ref S) (.ref it) = false := by simp [Builtin.List.listSameRef, Ne.symm hitS]
  have h2 : (Value.type "list_iterator" == Value.type "list") = false := by decide
  have h3 : (Value.type "list_iterator" == Value.type "tuple") = false := by decide
  simp only [h1, h2, h3, Bool.or_false, Bool.false_eq_true, if_false]
  refine wpAny_bind (wpAny_pyIter_listiter hit₂ ?_)
  refine wpAny_bind (wpAny_holding ?_)
  unfold Builtin.List.listLengthHint
  refine wpAny_bind (wpAny_specialOf hT F.nolen_li ?_)
  show wpAny _ A.in1.in1 (specialOf (Value.ref it) (Str.ofString "__length_hint__") >>= _) _ _ _
  refine wpAny_bind (wpAny_specialOf hT F.hint_li ?_)
  generalize hid : ("list_iterator.__length_hint__" : String) = id0
  wp_delta
  rw [show splitId id0 = some ("list_iterator", "__length_hint__") from by subst hid; decide +kernel]
  subst hid
  refine wpAny_bind (wpAny_isInstance (b := true) hT (by rw [isSubtype_type]; kernel_rfl) ?_)
  refine wpAny_pure ?_
  rw [if_neg (by decide)]
  refine wpAny_pure ⟨plainId_quiet F.plain_extend_loop _, li_loop (A := A.in1) (h₀ := s.heap) (i := i) hh hI hlen hitS hlS hli (ns.length - i) i ⟨H2, s.gens, s.drawn, s.toks, s.os⟩ _ _ [] rfl hit₂ hl₂ (by exact .nil) rfl (fun b o h1 h2 e => oth₂ _ _ h2 (up _ _ e)) hS₂ fun h' acc' c' e1 e2 e3 => ?_⟩
  refine ⟨rfl, hQ S h' acc'.toList hSn (fun b o hb e => e3 b o hb (fresh_ne e hSn) e) ⟨c', by simpa using e1⟩ e2⟩
end
end
end Mine

namespace Mine
section
set_option maxRecDepth 100000
set_option linter.unusedVariables false
open PySem.Builtin

section
variable {prog : Program} {w : World} {A : Around} {E : Value → Shared → Prop} {s₀ s : Shared} {hb : Heap} {K : Frag} {mg mb : Str → Option Value} {L a r : Addr} {n : Nat} {m : Str → Option Value} {cw cf : Option Value} {vs : List Value} {ns : List Int} {env : Env}

theorem law_ids {pf q pos lpos pp q' : Pos} {Q : Value → Shared → Prop} (hh : A.handled = none) (hroom : A.depth + 8 < recursionLimit) (Z : Base K mg mb hb) (B : LB hb L) (S : LS hb L n m cw cf s₀ s) (hn : n ≤ lpos.line) (mr : m "row" = some (.ref r))
    (hr : hb.IsList r vs.toArray) (hI : IntsAre vs ns) (hns : ∀ x ∈ ns, 0 ≤ x ∧ x < 12) (hlen : ns.length ≤ 60)
    (hQ : ∀ D h' tk ys, (∀ b o, b ≠ 66 → s.heap.get? b = some o → h'.get? b = some o) → s.heap.get? D = none → h'.PlainList D (ys : List Value).toArray → IntsAre ys (firstsGo idf [] ns) → LS hb L (lpos.line + 1) m cw cf s₀ { s with heap := h', toks := tk } → Q (.ref D) { s with heap := h', toks := tk }) :
    wpAny (model prog w) A (eval (.Call (.Name "_law_firsts" pf) [.Name "row" q, .Lambda (lamPar pp) (.Name "one" q') lamSc lpos] [] pos) (lawEnv L a)) Q E s := by
  refine law_firsts hh hroom Z B S rfl rfl (law_ld S mr (law_lam Z B S hn fun f c ct pm h₁ t₁ S₁ k₁ e₁ r₁ n₁ m₁ => ?_))
  have hd₁ := S₁.hide B
  have W : WayAt prog w (hideAll h₁ (HL L)) idf f := way_id (hideAll_get _ e₁ n₁) (codeRec_hide r₁ m₁) (Z.keeps hd₁).G.nolimit
  refine ⟨r, vs, ns, f, idf, _, _, _, _, rfl, rfl, S₁, W, hr.at fun o e => S₁.stay _ o e, hI, hns, hlen, fun D h₂ t₂ ys up₂ nD hp hI₂ S₂ => ?_⟩
  refine hQ D h₂ t₂ ys (fun b o hb e => up₂ _ _ (k₁ _ _ hb e)) ?_ hp hI₂ S₂
  cases q : s.heap.get? D with
  | none => rfl
  | some o =>
    obtain ⟨ps, e66, _⟩ := S₁.tab
    have h66 : D ≠ 66 := (fresh_ne e66 nD).symm
    rw [k₁ _ _ h66 q] at nD; cases nD

theorem sub_slice {value : Expr} {lower upper : Option Expr} {p pos : Pos} {Q : Value → Shared → Prop}
    (h : wpAny (model prog w) A (eval value env) (fun o s₁ => wpAny (model prog w) A (evalPart lower env) (fun vl s₂ => wpAny (model prog w) A (evalPart upper env) (fun vu s₃ =>
      ∃ l items lo hi, o = .ref l ∧ s₃.heap.IsList l items ∧ items.size ≤ sizeLine ∧ IsPart vl lo ∧ IsPart vu hi ∧
        Q (.ref (s₃.heap.objs.size + 1)) { s₃ with heap := (s₃.heap.push { cls := .type "slice", data := .fields #[vl, vu, .none] }).push { cls := .type "list", data := .seq (slicePick items lo hi none) } }) E s₂) E s₁) E s) :
    wpAny (model prog w) A (eval (.Subscript value (.Slice lower upper none p) pos) env) Q E s := by
  refine Subscript_ (wpAny_mono h (fun o s₁ h₁ => wpAny_Slice (wpAny_mono h₁ (fun vl s₂ h₂ => wpAny_mono h₂ (fun vu s₃ h₃ => evalPart_none_step ?_) fun _ _ e => e) fun _ _ e => e)) fun _ _ e => e)
  obtain ⟨l, items, lo, hi, rfl, hl, hsz, pl, pu, hQ⟩ := h₃
  exact kba_turn (value' := .Name ("_" : Str) ⟨0, 0, 0, 0⟩) (fun _ => rfl) (slice_listK hl pl pu hQ (by with_unfolding_all rfl) (fun _ => rfl) hsz)

/-- `_law_firsts(row, lambda one: one)[:2]` -/
theorem law_two {pf q pos lpos pp q' p₁ p₂ p₃ : Pos} {kk : Nat} {Q : Value → Shared → Prop} (hh : A.handled = none) (hroom : A.depth + 8 < recursionLimit) (Z : Base K mg mb hb) (B : LB hb L) (S : LS hb L n m cw cf s₀ s) (hn : n ≤ lpos.line) (mr : m "row" = some (.ref r))
    (hr : hb.IsList r vs.toArray) (hI : IntsAre vs ns) (hns : ∀ x ∈ ns, 0 ≤ x ∧ x < 12) (hlen : ns.length ≤ 60)
    (hQ : ∀ D h' tk ys, (∀ b o, b ≠ 66 → s.heap.get? b = some o → h'.get? b = some o) → s.heap.get? D = none → h'.PlainList D (ys : List Value).toArray → IntsAre ys ((firstsGo idf [] ns).take 2) → LS hb L (lpos.line + 1) m cw cf s₀ { s with heap := h', toks := tk } → Q (.ref D) { s with heap := h', toks := tk }) :
    wpAny (model prog w) A (eval (.Subscript (.Call (.Name "_law_firsts" pf) [.Name "row" q, .Lambda (lamPar pp) (.Name "one" q') lamSc lpos] [] pos) (.Slice none (some (.Constant (.int 2) kk p₁)) none p₂) p₃) (lawEnv L a)) Q E s := by
  refine sub_slice (law_ids hh hroom Z B S hn mr hr hI hns hlen fun D h' tk ys k nD hp hI' S' => evalPart_none_step (evalPart_some_step (wpAny_Constant_int ?_)))
  have ll : ys.length ≤ 60 := by rw [hI'.length]; exact Nat.le_trans (len_firsts idf ns []) hlen
  refine ⟨D, ys.toArray, none, some 2, rfl, hp.isList, by rw [sizeLine_eq, List.size_toArray]; omega, .none, .int _ _, ?_⟩
  refine hQ _ _ (tk + 1) (slicePick ys.toArray none (some (2 : Int)) none).toList (fun b o hb e => push2_up _ _ (k _ _ hb e)) ?_ ⟨0, by rw [push2_get rfl]⟩ (slice_ints_uptoW hI' (by decide)) (S'.ext push2_up)
  cases q : s.heap.get? (h'.objs.size + 1) with
  | none => rfl
  | some o =>
    have h2 := push2_new (h := h')
    by_cases h66 : (h'.objs.size + 1 : Addr) = 66
    · obtain ⟨ps, e66, _⟩ := S'.tab
      have e66' : h'.get? 66 = some (tabObj ps) := e66
      rw [h66, e66'] at h2; cases h2
    · rw [k _ _ h66 q] at h2; cases h2
end
end
end Mine

namespace Mine
section
set_option maxRecDepth 100000
set_option linter.unusedVariables false
open PySem.Builtin

def tellStmt : Stmt := lawBody.getD 6 (.Pass ⟨0, 0, 0, 0⟩)

theorem Fw.of_same {mine : Addr → Prop} {h h' : Heap} {x : Addr} (hx : mine x) (hs : Heap.SameBut x h h') (ex : ∃ o, h'.get? x = some o) (ns : (∃ m, h.Ns x m) → ∃ m, h'.Ns x m) : Fw mine h h' :=
  ⟨fun b o hb e => hs.extBut b o (fun q => hb (q ▸ hx)) e, fun b ⟨o, e⟩ => by by_cases q : b = x; exact q ▸ ex; exact ⟨o, hs.extBut b o q e⟩, fun b ⟨m, e⟩ => by
    by_cases q : b = x
    · exact q ▸ ns (q ▸ ⟨m, e⟩)
    · exact ⟨m, e.sameBut hs q⟩⟩

section
variable {prog : Program} {w : World} {A : Around} {E : Value → Shared → Prop} {s₀ s s' : Shared} {hb : Heap} {K : Frag} {mg mb : Str → Option Value} {L a r : Addr} {n : Nat} {m : Str → Option Value} {cw cf : Option Value} {vs zs : List Value} {ns : List Int}

theorem LS.move {x : Addr} {h : Heap} {tk : Nat} (hx : x ∉ HL L) (hbx : hb.get? x = none) (S : LS hb L n m cw cf s₀ s) (k : ∀ b o, b ≠ x → s.heap.get? b = some o → h.get? b = some o) : LS hb L n m cw cf s₀ { s with heap := h, toks := tk } :=
  ⟨fun b o e => k b o (fun q => by rw [q, hbx] at e; cases e) (S.stay b o e), S.ns.at' fun o e => k _ o (fun q => hx (q ▸ .tail _ (.head _))) e, cell_at S.way fun o e => k _ o (fun q => hx (q ▸ .tail _ (.tail _ (.head _)))) e,
    cell_at S.first fun o e => k _ o (fun q => hx (q ▸ .tail _ (.tail _ (.tail _ (.head _))))) e, let ⟨ps, e, q⟩ := S.tab; ⟨ps, k _ _ (fun q => hx (q ▸ .head _)) e, q⟩, S.bare, S.os⟩

theorem LS.mv {st : Heap} {wr fr : Addr → Prop} {g : Nat} (S : LS hb L n m cw cf s₀ s) (M : Mv st wr fr g s s') (hst : ∀ b, (∃ o, hb.get? b = some o) → ∃ o, st.get? b = some o) (hHL : ∀ b ∈ HL L, ∃ o, st.get? b = some o) (hw : ∀ b, wr b → hb.get? b = none ∧ (b = L ∨ b ∉ HL L)) (hLL : 66 < L) (hf : fr L) : LS hb L n m cw cf s₀ s' := by
  have nw : ∀ b ∈ HL L, b ≠ L → ¬ wr b := fun b hb' hbL q => ((hw b q).2.elim hbL fun z => z hb')
  exact ⟨fun b o e => M.keep b o (hst b ⟨o, e⟩) (fun q => by rw [(hw b q).1] at e; cases e) (S.stay b o e), M.frm _ _ hf S.ns, cell_at S.way fun o e => M.keep _ o (hHL _ (.tail _ (.tail _ (.head _)))) (nw _ (.tail _ (.tail _ (.head _))) (ne1 L)) e,
    cell_at S.first fun o e => M.keep _ o (hHL _ (.tail _ (.tail _ (.tail _ (.head _))))) (nw _ (.tail _ (.tail _ (.tail _ (.head _)))) (ne2 L)) e,
    let ⟨ps, e, q⟩ := S.tab; ⟨ps, M.keep _ _ (hHL _ (.head _)) (nw _ (.head _) (Nat.ne_of_lt hLL)) e, q⟩, M.gens.bare S.bare, M.os.trans S.os⟩

theorem law_tell {R : Result → Shared → Prop} {px : Pos} {Tg C As If Lz : Addr} {g : Nat} {us : List Int} {js : List Nat} (hh : A.handled = none) (hroom : A.depth + 8 < recursionLimit) (hfr : A.frames = some [lawEnv L a]) (Z : Base K mg mb hb) (B : LB hb L) (S : LS hb L n m cw cf s₀ s)
    (mt : m "told" = some (.ref Tg)) (hr : hb.IsList r vs.toArray) (hI : IntsAre vs ns) (hlen : ns.length ≤ 60) (hz : hb.IsList Lz zs.toArray) (hIz : IntsAre zs us) (hus : us = (uniq idf (fun _ => false) ns).take 2) (hjs : js = (stops (fun _ => false) 0 ns).take 2)
    (hTg : ∃ o, hb.get? Tg = some o) (hg : s.heap.IsGen Tg g) (hgs : s.gens[g]? = some (.fresh (.func ueBody (ueEnv C 59 (.ref 58))))) (hnC : s.heap.Ns C (fun y => ([("iterable", .ref As), ("key", .none)] : List (Str × Value)).reverse.lookup y))
    (hit : s.heap.IsListIter As r 0) (hif : s.heap.IsListIter If Lz 0) (bC : hb.get? C = none) (bA : hb.get? As = none) (bI : hb.get? If = none) (CL : C ≠ L) (CH : C ∉ HL L) (AI : As ≠ If)
    (hR : ∀ s' m', LS hb L n m' cw cf s₀ s' → (∀ x : Str, x ≠ "one" → m' x = m x) → (us.length = 0 → s'.heap.IsListIter As r 0) → (0 < us.length → ∀ j, js[us.length - 1]? = some j → s'.heap.IsListIter As r j) → R (.ok .next) s') :
    codeAny (model prog w) A (.forLoop (.Name "one" px) (.ref If) (forBody tellStmt) [] (lawEnv L a)) R s := by
  have AH := iter_not S hit
  have IH := iter_not S hif
  have CA := ns_ne_iter hnC hit
  have CI := ns_ne_iter hnC hif
  have AL : As ≠ L := fun q => AH (q ▸ .tail _ (.head _))
  have IL : If ≠ L := fun q => IH (q ▸ .tail _ (.head _))
  have hjl : js.length = us.length := by rw [hus, hjs, List.length_take, List.length_take, stops_length]
  have exHL : ∀ b ∈ HL L, ∃ o, s.heap.get? b = some o := fun b q => by
    rcases List.mem_cons.mp q with rfl | q
    · obtain ⟨ps, e, _⟩ := S.tab; exact ⟨_, e⟩
    rcases List.mem_cons.mp q with rfl | q
    · obtain ⟨o, _, _, e, _⟩ := S.ns; exact ⟨o, e⟩
    rcases List.mem_cons.mp q with rfl | q
    · obtain ⟨o, e, _⟩ := S.way; exact ⟨o, e⟩
    rw [List.mem_singleton.mp q]
    obtain ⟨o, e, _⟩ := S.first; exact ⟨o, e⟩
  have exIf : ∃ o, s.heap.get? If = some o := let ⟨o, e, _⟩ := hif; ⟨o, e⟩
  have exTg : ∃ o, s.heap.get? Tg = some o := let ⟨o, _, _, e, _⟩ := hg; ⟨o, e⟩
  have bTg : ∀ {b : Addr}, hb.get? b = none → Tg ≠ b := fun e q => by obtain ⟨o, z⟩ := hTg; rw [q, e] at z; cases z
  have ncs : ∀ {b : Addr}, hb.get? b = none → cStatics ≠ b := fun e q => by obtain ⟨mc, ⟨o, _, _, z, _⟩, _⟩ := Z.G.nolimit; rw [q, e] at z; cases z
  have excs : ∃ o, s.heap.get? cStatics = some o := by obtain ⟨mc, ⟨o, _, _, z, _⟩, _⟩ := Z.G.nolimit; exact ⟨o, S.stay _ _ z⟩
  have G₀ : ∀ (hp : 0 < us.length), GAt prog w A.in1.in1 Tg g s.heap (fun b => b = C ∨ b = L ∨ b = As) (· = L) (fun b => b = L ∨ b = If) us False (zAt As r js) us.length s := fun hp =>
    told_gat (A := A.in1.in1) (lenv := lawEnv L a) hh (by show A.depth + 5 < _; omega) hfr rfl rfl Z.T Z.U Z.G S.stay hg hgs hnC hit ⟨_, S.ns⟩ B.nL bC bA CL AL (fun q => by obtain ⟨o, e, _⟩ := hr; rw [← q, bA] at e; cases e) (fun q => q.elim CL CI) (fun q => q.elim AL AI)
      (fun b q => q.elim (fun z => z ▸ B.nL) fun z => z ▸ bI) (fun b q => q.elim (fun z => z ▸ exHL _ (.tail _ (.head _))) fun z => z ▸ exIf) hr hI hlen hus hjs hp
  refine codeAny_forLoop (fun k s' => ∃ j m', k = us.length + 1 - j ∧ j ≤ us.length ∧ LS hb L n m' cw cf s₀ s' ∧ (∀ x : Str, x ≠ "one" → m' x = m x) ∧ s'.heap.IsListIter If Lz j ∧
    (j < us.length → GAt prog w A.in1.in1 Tg g s.heap (fun b => b = C ∨ b = L ∨ b = As) (· = L) (fun b => b = L ∨ b = If) us False (zAt As r js) (us.length - j) s') ∧ (j = 0 → s'.heap.IsListIter As r 0) ∧ (0 < j → ∀ x, js[j - 1]? = some x → s'.heap.IsListIter As r x)) ?_ (us.length + 1)
    ⟨0, m, rfl, Nat.zero_le _, S, fun _ _ => rfl, hif, fun hp => by rw [Nat.sub_zero]; exact G₀ hp, fun _ => hit, fun q => absurd q (Nat.lt_irrefl _)⟩
  rintro k s' ⟨j, m', rfl, hj, S', hm', hif', G', h0, h1⟩
  have hz' : s'.heap.IsList Lz zs.toArray := hz.at fun o e => S'.stay _ o e
  by_cases hlt : j < us.length
  · obtain ⟨tz', hvz⟩ := hIz.get j _ (List.getElem?_eq_getElem hlt)
    have huj : us[j]? = some us[j] := List.getElem?_eq_getElem hlt
    generalize us[j] = u at hvz huj
    refine wpAny_pyNext_list_item hif' hz' (by rw [List.getElem?_toArray]; exact hvz) fun h₁ hi₁ hs₁ => ?_
    have S₁ : LS hb L n m' cw cf s₀ { s' with heap := h₁ } := S'.move (tk := s'.toks) IH bI fun b o hb e => hs₁.extBut b o hb e
    have G₁ := (G' hlt).frame (h := h₁) (tk := s'.toks) (Fw.of_same (.inr rfl) hs₁ (let ⟨o, e, _⟩ := hi₁; ⟨o, e⟩) fun ⟨mm, q⟩ => absurd rfl (ns_ne_iter q hif')) (fun q => q.elim (bTg B.nL) (bTg bI)) (fun q => q.elim (ncs B.nL) (ncs bI))
    refine wpAny_assign_Name (law_st B S₁ fun h₂ tk₂ S₂ hs₂ => ?_)
    have G₂ := G₁.frame (h := h₂) (tk := tk₂) (Fw.of_same (.inl rfl) hs₂ (let ⟨o, _, _, e, _⟩ := S₂.ns; ⟨o, e⟩) fun _ => ⟨_, S₂.ns⟩) (fun q => q.elim (bTg B.nL) (bTg bI)) (fun q => q.elim (ncs B.nL) (ncs bI))
    have hi₂ : h₂.IsListIter If Lz (j + 1) := hi₁.extBut hs₂.extBut IL
    obtain ⟨q, hq⟩ : ∃ q, us.length - j = q + 1 := ⟨us.length - j - 1, by omega⟩
    rw [hq] at G₂
    have mt₂ : (fun y => if y = ("one" : Str) then some (Value.int u tz') else m' y) "told" = some (.ref Tg) := by show (if _ then _ else _) = _; rw [if_neg (by decide), hm' _ (by decide)]; exact mt
    have mo₂ : (fun y => if y = ("one" : Str) then some (Value.int u tz') else m' y) "one" = some (.int u tz') := by show (if _ then _ else _) = _; rw [if_pos rfl]
    show wpAny _ _ (execs (forBody tellStmt) _) _ _ _
    refine wpAny_execs_cons (wpAny_If (wpAny_isTrue_Compare1 (Call_ (gb_builtin Z.G S₂.stay (v := .builtin "next") (by decide) (by decide +kernel) ?_ rfl rfl rfl rfl))))
    refine callWith_builtin1 (law_ld S₂ mt₂ ?_)
    refine told_next hh (by omega) G₂ exTg (fun q => q.elim (bTg bC) fun q => q.elim (bTg B.nL) (bTg bA)) excs (fun q => q.elim (ncs bC) fun q => q.elim (ncs B.nL) (ncs bA)) fun x t s₃ hx hM hzz hG => ?_
    have S₃ := S₂.mv hM (fun b ⟨o, e⟩ => ⟨o, S.stay b o e⟩) exHL (fun b q => q.elim (fun z => z ▸ ⟨bC, .inr CH⟩) fun q => q.elim (fun z => ⟨by rw [z]; exact B.nL, .inl z⟩) fun z => z ▸ ⟨bA, .inr AH⟩) B.lt rfl
    have hix : us.length - 1 - q = j := by omega
    rw [hix, huj] at hx
    cases hx
    refine law_ld S₃ mo₂ (ne_int (wpAny_truthy_bool ?_))
    rw [bne_self_eq_false]
    show wpAny _ _ (execs [] _) _ _ _
    refine wpAny_execs_nil (wpAny_execs_nil ⟨us.length + 1 - (j + 1), by omega, j + 1, _, rfl, hlt, S₃, fun y hy => by show (if _ then _ else _) = _; rw [if_neg hy]; exact hm' y hy, hi₂.at fun o e => hM.keep _ o exIf (fun q => q.elim (Ne.symm CI) fun q => q.elim IL (Ne.symm AI)) e, fun hlt' => ?_, fun q => absurd q (Nat.succ_ne_zero j), fun _ x hx => ?_⟩)
    · rw [show us.length - (j + 1) = q by omega]
      exact hG fun q0 => by omega
    · refine hzz x ?_
      rw [hjl, hix]
      rwa [Nat.add_sub_cancel] at hx
  · refine wpAny_pyNext_list_end hh hif' hz' (by rw [List.getElem?_toArray]; exact List.getElem?_eq_none (by rw [hIz.length]; omega)) fun h₁ he₁ => wpAny_execs_nil ?_
    have hjn : j = us.length := by omega
    refine hR _ m' (S'.move (tk := s'.toks) IH bI fun b o hb e => he₁ b o hb e) hm' (fun q => ?_) fun q x hx => ?_
    · exact (h0 (by omega)).at fun o e => he₁ _ o AI e
    · exact (h1 (by omega) x (by rw [hjn]; exact hx)).at fun o e => he₁ _ o AI e
end
end
end Mine

namespace Mine
section
set_option maxRecDepth 100000
set_option linter.unusedVariables false
open PySem.Builtin

theorem idx_ne {x v : Int} {r : List Int} (h : ¬ x = v) : (x :: r).idxOf v = r.idxOf v + 1 := by
  rw [List.idxOf_cons, beq_eq_false_iff_ne.mpr h]; rfl

theorem stops_idx : ∀ (xs : List Int) (S : Int → Bool) (i t : Nat) (v : Int) (j : Nat), (uniq idf S xs)[t]? = some v → (stops S i xs)[t]? = some j → S v = false ∧ v ∈ xs ∧ j = i + xs.idxOf v + 1
  | [], _, _, _, _, _, h, _ => by simp [uniq] at h
  | x :: r, S, i, t, v, j, h, h' => by
    cases hS : S x with
    | true =>
      simp only [uniq, hS, if_true] at h
      simp only [stops, hS, if_true] at h'
      obtain ⟨h1, h2, h3⟩ := stops_idx r S (i + 1) t v j h h'
      have hne : ¬ x = v := fun e => by rw [← e, hS] at h1; cases h1
      refine ⟨h1, List.mem_cons_of_mem _ h2, ?_⟩
      rw [idx_ne hne, h3]; omega
    | false =>
      simp only [uniq, hS, Bool.false_eq_true, if_false] at h
      simp only [stops, hS, Bool.false_eq_true, if_false] at h'
      cases t with
      | zero =>
        simp only [List.getElem?_cons_zero, Option.some.injEq] at h h'
        subst h; subst h'
        exact ⟨hS, List.mem_cons_self, by simp⟩
      | succ t =>
        simp only [List.getElem?_cons_succ] at h h'
        obtain ⟨h1, h2, h3⟩ := stops_idx r _ (i + 1) t v j h h'
        simp only [Bool.or_eq_false_iff, decide_eq_false_iff_not] at h1
        refine ⟨h1.1, List.mem_cons_of_mem _ h2, ?_⟩
        rw [idx_ne (fun e => h1.2 e.symm), h3]; omega

theorem uniq_pos {ns : List Int} (h : ns ≠ []) : 0 < (uniq idf (fun _ => false) ns).length := by
  cases ns with
  | nil => exact absurd rfl h
  | cons x r => simp only [uniq, Bool.false_eq_true, if_false, List.length_cons]; omega

/-- where the iterator stands behind the last of the first two, by `row.index` -/
theorem taken_at {ns us : List Int} {js : List Nat} (h : ns ≠ []) (hus : us = (firstsGo idf [] ns).take 2) (hjs : js = (stops (fun _ => false) 0 ns).take 2) :
    0 < us.length ∧ us.getD (us.length - 1) 0 ∈ ns ∧ js[us.length - 1]? = some (ns.idxOf (us.getD (us.length - 1) 0) + 1) := by
  rw [← uniq_first] at hus
  have hp := uniq_pos h
  have hl : us.length = min 2 (uniq idf (fun _ => false) ns).length := by rw [hus, List.length_take]
  have hlt : us.length - 1 < us.length := by omega
  have h2 : us.length - 1 < 2 := by omega
  have hu : (uniq idf (fun _ => false) ns)[us.length - 1]? = some (us.getD (us.length - 1) 0) := by
    have e1 : us[us.length - 1]? = some (us.getD (us.length - 1) 0) := by
      rw [List.getD_eq_getElem?_getD, List.getElem?_eq_getElem hlt]; rfl
    rw [← e1]
    conv => rhs; rw [hus]
    rw [List.getElem?_take, if_pos (by rw [← hus]; exact h2)]
    rw [← hus]
  have hs : ∃ j, (stops (fun _ => false) 0 ns)[us.length - 1]? = some j := by
    refine ⟨_, List.getElem?_eq_getElem (by rw [stops_length]; omega)⟩
  obtain ⟨j, hj⟩ := hs
  obtain ⟨_, h3, h4⟩ := stops_idx ns _ 0 _ _ _ hu hj
  refine ⟨by omega, h3, ?_⟩
  rw [hjs, List.getElem?_take, if_pos h2, hj, h4, Nat.zero_add]

section
variable {prog : Program} {w : World} {A : Around} {E : Value → Shared → Prop} {s : Shared}
theorem index_ints {l : Addr} {vs : List Value} {ns : List Int} {k : Int} {t : Tok} {Q : Value → Shared → Prop} (hl : s.heap.IsList l vs.toArray) (hi : IntsAre vs ns) (hlen : ns.length ≤ 60) (hk : k ∈ ns)
    (h : Q (.int (ns.idxOf k : Nat) s.toks) { s with toks := s.toks + 1 }) : wpAny (model prog w) A (call (.builtin "list.index") [.ref l, .int k t]) Q E s := by
  obtain ⟨⟨cls, dd, data, sl⟩, ho, hc, n, hd⟩ := id hl
  simp only at hc hd
  subst hc hd
  have hlen' := hi.length
  have hj : ns.idxOf k < ns.length := List.idxOf_lt_length_iff.mpr hk
  refine call_meets PySem.F.slot_list_index ⟨_, ho, rfl⟩ PySem.F.entry_list_index (PySem.F.args_list_index_2 _ _)
    (PySem.SeqAt.list_indexAt l vs.toArray n dd sl (.int k t) (isInt k) (ns.idxOf k) (by rw [List.size_toArray, hlen']; exact hj) (by omega) ?_ ?_) ⟨ho, fun y hy => (eq_isInt k t hi y (by simpa using hy)).at _ _, h⟩
  · show isInt k vs[ns.idxOf k] = true
    rw [isInt_at k hi _ (by omega) hj]
    simp
  · intro j hjs hlt
    show isInt k vs[j] = false
    rw [isInt_at k hi j (by simpa using hjs) (by omega)]
    exact ne_of_lt_idxOf hlt _
end
end
end Mine

namespace Mine
section
set_option maxRecDepth 100000
set_option linter.unusedVariables false
open PySem.Builtin

section
variable {prog : Program} {w : World} {A : Around} {E : Value → Shared → Prop} {s₀ s : Shared} {hb : Heap} {K : Frag} {mg mb : Str → Option Value} {L a r : Addr} {n : Nat} {m : Str → Option Value} {cw cf : Option Value} {vs : List Value} {ns : List Int}

theorem LS.gens {gs : Array GenState} (S : LS hb L n m cw cf s₀ s) (h : AllBare gs) : LS hb L n m cw cf s₀ { s with gens := gs } := ⟨S.stay, S.ns, S.way, S.first, S.tab, h, S.os⟩

/-- statements 7 and 8: where `asked` was left -/
theorem law_last {As : Addr} {i : Nat} (hh : A.handled = none) (hroom : A.depth + 8 < recursionLimit) (hu : A.units + 64 < cLine) (Z : Base K mg mb hb) (B : LB hb L) (S : LS hb L n m cw cf s₀ s) (hn : n ≤ 62)
    (hr : hb.PlainList r vs.toArray) (hI : IntsAre vs ns) (hns : ∀ x ∈ ns, 0 ≤ x ∧ x < 12) (hlen : ns.length ≤ 60) (mr : m "row" = some (.ref r)) (ma : m "asked" = some (.ref As)) (bA : hb.get? As = none) (hit : s.heap.IsListIter As r i)
    (hi0 : ns = [] → i = 0) (hi1 : ns ≠ [] → i = ns.idxOf (((firstsGo idf [] ns).take 2).getD (((firstsGo idf [] ns).take 2).length - 1) 0) + 1) (hmem : ns ≠ [] → 0 < ((firstsGo idf [] ns).take 2).length ∧ ((firstsGo idf [] ns).take 2).getD (((firstsGo idf [] ns).take 2).length - 1) 0 ∈ ns) :
    wpAny (model prog w) A (execs (lawBody.drop 7) (lawEnv L a)) (fun fl s' => fl = .ret (.bool true) ∧ ∃ n m cw cf, LS hb L n m cw cf s₀ s') E s := by
  have rl : ∀ {s' : Shared}, hb.StaysIn s'.heap → s'.heap.PlainList r vs.toArray := fun k => hr.at fun o e => k _ o e
  have AH := iter_not S hit
  have AL : As ≠ L := fun q => AH (q ▸ .tail _ (.head _))
  have A66 : As ≠ 66 := fun q => AH (q ▸ .head _)
  have upn : ∀ b o, s.heap.get? b = some o → (s.heap.push { cls := .type "list", data := .seq ([] : List Value).toArray }).get? b = some o := fun b o e => Heap.get?_push_of_some _ e
  have hpn : (s.heap.push { cls := .type "list", data := .seq ([] : List Value).toArray }).IsList s.heap.objs.size ([] : List Value).toArray := ⟨_, Heap.get?_push_size _ rfl, rfl, _, rfl⟩
  have Sn := S.ext (tk := s.toks) upn
  -- how the last statement ends, once `taken` is stored
  have fin : ∀ (s' : Shared) (n' : Nat) (k : Int) (t : Tok), LS hb L n' m cw cf s₀ s' → s'.heap.IsListIter As r i → 0 ≤ k → k.toNat = i →
      wpAny (model prog w) A (storeName (lawEnv L a) "taken" (.int k t)) (fun _ s₂ => wpAny (model prog w) A (execs (lawBody.drop 8) (lawEnv L a)) (fun fl s' => fl = .ret (.bool true) ∧ ∃ n m cw cf, LS hb L n m cw cf s₀ s') E s₂) E s' := by
    intro s' n' k t S' hit' hk0 hki
    refine law_st B S' fun h₁ t₁ S₁ hs₁ => ?_
    have hit₁ : h₁.IsListIter As r i := hit'.extBut hs₁.extBut AL
    have ma₁ : (fun y => if y = ("taken" : Str) then some (Value.int k t) else m y) "asked" = some (.ref As) := by show (if _ then _ else _) = _; rw [if_neg (by decide)]; exact ma
    have mr₁ : (fun y => if y = ("taken" : Str) then some (Value.int k t) else m y) "row" = some (.ref r) := by show (if _ then _ else _) = _; rw [if_neg (by decide)]; exact mr
    have mt₁ : (fun y => if y = ("taken" : Str) then some (Value.int k t) else m y) "taken" = some (.int k t) := by show (if _ then _ else _) = _; rw [if_pos rfl]
    refine wpAny_execs_cons (wpAny_Return_some (wpAny_Compare1 (Call_ (gb_builtin Z.G S₁.stay (v := .type "list") (by decide) (by decide +kernel) ?_ rfl rfl rfl rfl))))
    refine callWith_type1 (args_cons (law_ld S₁ ma₁ (args_nil ?_)))
    refine list_listiter hh hit₁ (rl S₁.stay).isList hI hlen fun D h₂ ys nD k₂ hp hI₂ => ?_
    have S₂ := S₁.move (tk := t₁) AH bA k₂
    refine law_from S₂ mr₁ mt₁ hk0 (rl S₂.stay).isList hI hlen fun D₃ h₃ t₃ ys₃ up₃ nD₃ hp₃ hI₃ S₃ => ?_
    refine eq_intsK (hp.at fun o e => up₃ _ o e).isList hI₂ hp₃.isList hI₃ hu ?_
    rw [hki, decide_eq_true rfl]
    exact ⟨rfl, _, _, _, _, S₃⟩
  refine wpAny_execs_cons (wpAny_Assign_Name (IfExp_ (wpAny_isTrue_Compare1 (law_ld S mr (List_ (args_nil (wpAny_newList (ne_intsK ((rl S.stay).isList.at fun o e => upn _ o e) hI hpn (by exact .nil) hu (wpAny_truthy_bool ?_)))))))))
  by_cases hne : ns = []
  · rw [decide_eq_true hne]
    show wpAny _ _ (eval (.Constant (.int 0) _ _) _) _ _ _
    refine wpAny_Constant_int ?_
    exact fin _ _ 0 _ (Sn.ext (tk := s.toks + 1) fun b o e => e) (hit.at fun o e => upn _ o e) (Int.le_refl 0) (by rw [hi0 hne]; rfl)
  · rw [decide_eq_false hne]
    show wpAny _ _ (eval (.BinOp _ _ _ _) _) _ _ _
    obtain ⟨hpos, hin⟩ := hmem hne
    refine wpAny_BinOp (MethodCall_ (law_ld Sn mr ?_))
    have hpr : (s.heap.push { cls := .type "list", data := .seq ([] : List Value).toArray }).PlainList r vs.toArray := (rl S.stay).at fun o e => upn _ o e
    refine getMethod_list_of PySem.F.slot_list_index PySem.F.type_list_index hpr.isList ?_ ?_
    · obtain ⟨c, e⟩ := hpr
      exact ⟨_, e, rfl⟩
    refine callWith_method1 (args_cons (Subscript_ (law_two hh hroom Z B Sn hn mr hr.isList hI hns hlen fun D₂ h₂ t₂ ys₂ k₂ nD₂ hp₂ hI₂ S₂ => ?_)))
    refine UnaryOp_ (wpAny_Constant_int (neg_int ?_))
    have S₃ : LS hb L 63 m cw cf s₀ { heap := h₂, gens := s.gens, drawn := s.drawn, toks := t₂ + 1 + 1, os := s.os } := S₂.ext (tk := t₂ + 1 + 1) fun b o e => e
    refine item_list_ints_negR (hp₂.isList) hI₂ (by decide) (by omega) (by decide) fun t => args_nil ?_
    have hk : (-1 + ((((firstsGo idf [] ns).take 2).length : Nat) : Int)).toNat = ((firstsGo idf [] ns).take 2).length - 1 := by omega
    rw [hk]
    refine index_ints (rl S₃.stay).isList hI hlen hin ?_
    refine wpAny_Constant_int (add_int ?_)
    refine fin _ 63 _ _ (S₃.ext (tk := t₂ + 1 + 1 + 1 + 1 + 1) fun b o e => e) ((hit.at fun o e => upn _ o e).at fun o e => k₂ _ o A66 e) (by omega) ?_
    rw [hi1 hne]; omega
end
end
end Mine

namespace Mine
section
set_option maxRecDepth 100000
set_option linter.unusedVariables false
open PySem.Builtin

section
variable {prog : Program} {w : World} {A : Around} {E : Value → Shared → Prop} {s₀ s : Shared} {hb : Heap} {K : Frag} {mg mb : Str → Option Value} {L a r : Addr} {n : Nat} {m : Str → Option Value} {cw cf : Option Value} {vs : List Value} {ns : List Int}

theorem LS.rebase {hb' : Heap} (S : LS hb L n m cw cf s₀ s) (k : hb'.StaysIn s.heap) : LS hb' L n m cw cf s₀ s := ⟨k, S.ns, S.way, S.first, S.tab, S.bare, S.os⟩

theorem law_end (hh : A.handled = none) (hroom : A.depth + 8 < recursionLimit) (hu : A.units + 64 < cLine) (hfr : A.frames = some [lawEnv L a]) (Z : Base K mg mb hb) (B : LB hb L) (S : LS hb L n m cw cf s₀ s) (hn : n ≤ 53)
    (hr : hb.PlainList r vs.toArray) (hI : IntsAre vs ns) (hns : ∀ x ∈ ns, 0 ≤ x ∧ x < 12) (hlen : ns.length ≤ 60) (mr : m "row" = some (.ref r)) :
    wpAny (model prog w) A (execs (lawBody.drop 3) (lawEnv L a)) (fun fl s' => fl = .ret (.bool true) ∧ ∃ n m cw cf, LS hb L n m cw cf s₀ s') E s := by
  have rl : ∀ {s' : Shared}, hb.StaysIn s'.heap → s'.heap.PlainList r vs.toArray := fun k => hr.at fun o e => k _ o e
  -- 3: without a key
  refine wpAny_execs_cons (wpAny_If (wpAny_isTrue_Compare1 (law_list_one (lenv := lawEnv L a) hh hroom hfr rfl rfl Z B S rfl (law_ld S mr ⟨r, vs, ns, n, m, cw, cf, rfl, S, (rl S.stay).isList, hI, hlen, fun D ys s₁ nD V hp hI₁ S₁ => ?_⟩))))
  refine law_ids hh hroom Z B S₁ hn mr hr.isList hI hns hlen fun D₂ h₂ t₂ ys₂ k₂ nD₂ hp₂ hI₂ S₂ => ?_
  have D66 : D ≠ 66 := by obtain ⟨ps, e, _⟩ := S.tab; exact (fresh_ne e nD).symm
  refine ne_intsK (hp.at fun o e => k₂ _ o D66 e).isList hI₁ hp₂.isList hI₂ hu (wpAny_truthy_bool ?_)
  rw [uniq_first, decide_eq_true rfl]
  show wpAny _ _ (execs [] _) _ _ _
  refine wpAny_execs_nil ?_
  -- 4: asked
  refine wpAny_execs_cons (wpAny_Assign_Name (Call_ (gb_builtin Z.G S₂.stay (v := .builtin "iter") (by decide) (by decide +kernel) ?_ rfl rfl rfl rfl)))
  refine callWith_builtin1 (law_ld S₂ mr ?_)
  refine call_iter (wpAny_pyIter_list (rl S₂.stay).isList ?_)
  have up₃ : ∀ b o, h₂.get? b = some o → (h₂.push { cls := .type "list_iterator", data := .fields #[.ref r, .int 0 0] }).get? b = some o := fun b o e => Heap.get?_push_of_some _ e
  have hi₃ : (h₂.push { cls := .type "list_iterator", data := .fields #[.ref r, .int 0 0] }).IsListIter h₂.objs.size r 0 := ⟨_, Heap.get?_push_size _ rfl, rfl, rfl⟩
  have nA : h₂.get? h₂.objs.size = none := Heap.get?_none_of_le (Nat.le_refl _)
  have S₃ := S₂.ext (tk := t₂) up₃
  dsimp only at S₃ ⊢
  generalize h₂.push { cls := .type "list_iterator", data := .fields #[.ref r, .int 0 0] } = h₃ at up₃ hi₃ S₃ ⊢
  generalize h₂.objs.size = As at hi₃ nA ⊢
  have bA : hb.get? As = none := by
    cases q : hb.get? As with
    | none => rfl
    | some o => have := S₂.stay _ _ q; rw [nA] at this; cases this
  have AH := iter_not S₃ hi₃
  have AL : As ≠ L := fun q => AH (q ▸ .tail _ (.head _))
  have A66 : As ≠ 66 := fun q => AH (q ▸ .head _)
  refine law_st B S₃ fun h₄ t₄ S₄ hs₄ => ?_
  have hi₄ : h₄.IsListIter As r 0 := hi₃.extBut hs₄.extBut AL
  have ma₄ : (fun y => if y = ("asked" : Str) then some (Value.ref As) else m y) "asked" = some (.ref As) := by show (if _ then _ else _) = _; rw [if_pos rfl]
  have mr₄ : (fun y => if y = ("asked" : Str) then some (Value.ref As) else m y) "row" = some (.ref r) := by show (if _ then _ else _) = _; rw [if_neg (by decide)]; exact mr
  -- 5: told
  obtain ⟨doc, pm, ct, an, ho⟩ := Z.U.fn
  refine wpAny_execs_cons (wpAny_Assign_Name (Call_ (gb_global Z.G S₄.stay (v := .ref 59) Z.G.ue ?_ rfl rfl rfl)))
  refine callWith_def (o := { cls := .type "function", data := .func (ueFn doc pm ct an) }) (fd := ueFn doc pm ct an) rfl (args_cons (law_ld S₄ ma₄ (args_nil ⟨S₄.stay _ _ ho, ?_⟩)))
  refine call_ue (args := ⟨[.ref As], []⟩) (binds := [("iterable", .ref As), ("key", .none)]) (by omega) Z.U S₄.stay Z.G.nolimit (fun d p c n' => one_binds Z.U S₄.stay d p c n') ue_locs fun C Tg h₅ t₅ hnC hgen hCT up₅ nC nT => ?_
  have S₅ := (S₄.ext (tk := t₅) up₅).gens (gs := s₁.gens.push (.fresh (.func ueBody (ueEnv C 59 (.ref 58))))) (S₁.bare.push rfl)
  have hi₅ : h₅.IsListIter As r 0 := hi₄.at fun o e => up₅ _ o e
  have bC : hb.get? C = none := by
    cases q : hb.get? C with
    | none => rfl
    | some o => have := S₄.stay _ _ q; rw [nC] at this; cases this
  have exHL : ∀ b ∈ HL L, ∃ o, h₄.get? b = some o := fun b q => by
    rcases List.mem_cons.mp q with rfl | q
    · obtain ⟨ps, e, _⟩ := S₄.tab; exact ⟨_, e⟩
    rcases List.mem_cons.mp q with rfl | q
    · obtain ⟨o, _, _, e, _⟩ := S₄.ns; exact ⟨o, e⟩
    rcases List.mem_cons.mp q with rfl | q
    · obtain ⟨o, e, _⟩ := S₄.way; exact ⟨o, e⟩
    rw [List.mem_singleton.mp q]
    obtain ⟨o, e, _⟩ := S₄.first; exact ⟨o, e⟩
  have newH : ∀ {x : Addr}, h₄.get? x = none → x ∉ HL L := fun e q => by obtain ⟨o, z⟩ := exHL _ q; rw [e] at z; cases z
  have CH := newH nC
  have TH := newH nT
  have CL : C ≠ L := fun q => CH (q ▸ .tail _ (.head _))
  have TL : Tg ≠ L := fun q => TH (q ▸ .tail _ (.head _))
  have C66 : C ≠ 66 := fun q => CH (q ▸ .head _)
  have T66 : Tg ≠ 66 := fun q => TH (q ▸ .head _)
  have TA : Tg ≠ As := fun q => by obtain ⟨o, e, _⟩ := hi₄; rw [← q, nT] at e; cases e
  dsimp only at S₅ ⊢
  refine law_st B S₅ fun h₆ t₆ S₆ hs₆ => ?_
  have mr₆ : (fun y => if y = ("told" : Str) then some (Value.ref Tg) else if y = ("asked" : Str) then some (Value.ref As) else m y) "row" = some (.ref r) := by show (if _ then _ else if _ then _ else _) = _; rw [if_neg (by decide), if_neg (by decide)]; exact mr
  have ma₆ : (fun y => if y = ("told" : Str) then some (Value.ref Tg) else if y = ("asked" : Str) then some (Value.ref As) else m y) "asked" = some (.ref As) := by show (if _ then _ else if _ then _ else _) = _; rw [if_neg (by decide), if_pos rfl]
  have mt₆ : (fun y => if y = ("told" : Str) then some (Value.ref Tg) else if y = ("asked" : Str) then some (Value.ref As) else m y) "told" = some (.ref Tg) := by show (if _ then _ else _) = _; rw [if_pos rfl]
  have hi₆ : h₆.IsListIter As r 0 := hi₅.extBut hs₆.extBut AL
  have hn₆ := hnC.sameBut hs₆ CL
  have hg₆ : h₆.IsGen Tg s₁.gens.size := let ⟨o, nm, qn, e, q⟩ := hgen; ⟨o, nm, qn, hs₆.extBut _ _ TL e, q⟩
  -- 6: the loop
  refine wpAny_execs_cons (wpAny_For (law_two hh hroom Z B S₆ (by decide) mr₆ hr.isList hI hns hlen fun Lz h₇ t₇ zs k₇ nLz hpz hIz S₇ => ?_) (fun _ => rfl))
  refine wpAny_pyIter_list hpz.isList ?_
  have up₈ : ∀ b o, h₇.get? b = some o → (h₇.push { cls := .type "list_iterator", data := .fields #[.ref Lz, .int 0 0] }).get? b = some o := fun b o e => Heap.get?_push_of_some _ e
  have hif₈ : (h₇.push { cls := .type "list_iterator", data := .fields #[.ref Lz, .int 0 0] }).IsListIter h₇.objs.size Lz 0 := ⟨_, Heap.get?_push_size _ rfl, rfl, rfl⟩
  have nI : h₇.get? h₇.objs.size = none := Heap.get?_none_of_le (Nat.le_refl _)
  have S₈ := S₇.ext (tk := t₇) up₈
  dsimp only at S₈ ⊢
  generalize h₇.push { cls := .type "list_iterator", data := .fields #[.ref Lz, .int 0 0] } = h₈ at up₈ hif₈ S₈ ⊢
  generalize h₇.objs.size = If at hif₈ nI ⊢
  have hi₇ : h₇.IsListIter As r 0 := hi₆.at fun o e => k₇ _ o A66 e
  have AI : As ≠ If := fun q => by obtain ⟨o, e, _⟩ := hi₇; rw [q, nI] at e; cases e
  have hi₈ : h₈.IsListIter As r 0 := hi₇.at fun o e => up₈ _ o e
  have hn₈ := (hn₆.at' fun o e => k₇ _ o C66 e).keeps up₈
  have hg₈ : h₈.IsGen Tg s₁.gens.size := let ⟨o, nm, qn, e, q⟩ := hg₆; ⟨o, nm, qn, up₈ _ _ (k₇ _ _ T66 e), q⟩
  have TI : Tg ≠ If := fun q => by obtain ⟨o, _, _, e, _⟩ := hg₆; have := k₇ _ _ T66 e; rw [q, nI] at this; cases this
  have bI : hb.get? If = none := by
    cases q : hb.get? If with
    | none => rfl
    | some o => have := S₇.stay _ _ q; rw [nI] at this; cases this
  -- the heap that stays from here on
  have hidden : ∀ {b : Addr} {o : Obj}, h₈.get? b = some o → b ≠ C → b ≠ As → b ≠ If → b ∉ HL L → (hideAll h₈ (C :: As :: If :: HL L)).get? b = some o := fun e h1 h2 h3 h4 => hideAll_get _ e fun q => by
    rcases List.mem_cons.mp q with q | q
    · exact h1 q
    rcases List.mem_cons.mp q with q | q
    · exact h2 q
    rcases List.mem_cons.mp q with q | q
    · exact h3 q
    exact h4 q
  have notHL : ∀ {b : Addr} {o : Obj}, hb.get? b = some o → b ∉ HL L := fun e q => by
    rcases List.mem_cons.mp q with q | q
    · rw [q, B.n66] at e; cases e
    rcases List.mem_cons.mp q with q | q
    · rw [q, B.nL] at e; cases e
    rcases List.mem_cons.mp q with q | q
    · rw [q, B.n1] at e; cases e
    rw [List.mem_singleton.mp q, B.n2] at e; cases e
  have hX : hb.StaysIn (hideAll h₈ (C :: As :: If :: HL L)) := fun b o e => hidden (S₈.stay _ _ e) (fun q => by rw [q, bC] at e; cases e) (fun q => by rw [q, bA] at e; cases e) (fun q => by rw [q, bI] at e; cases e) (notHL e)
  have inX : ∀ {b : Addr}, b ∈ HL L → (hideAll h₈ (C :: As :: If :: HL L)).get? b = none := fun q => hideAll_none _ (.tail _ (.tail _ (.tail _ q)))
  have BX : LB (hideAll h₈ (C :: As :: If :: HL L)) L := ⟨inX (.head _), inX (.tail _ (.head _)), inX (.tail _ (.tail _ (.head _))), inX (.tail _ (.tail _ (.tail _ (.head _)))), B.lt⟩
  have kX : (hideAll h₈ (C :: As :: If :: HL L)).StaysIn h₈ := fun b o q => of_hideAll _ q
  have SX := LS.rebase S₈ kX
  have hzl : h₈.IsList Lz zs.toArray := hpz.isList.at fun o e => up₈ _ o e
  have LzH := list_not S₈ hzl
  have LzC : Lz ≠ C := fun q => by obtain ⟨o, e, _, c, hd⟩ := hzl; obtain ⟨o', _, _, e', hd', _⟩ := hn₈; rw [q, e'] at e; cases e; rw [hd] at hd'; cases hd'
  have li_ne : ∀ {It l : Addr} {i : Nat}, h₈.IsListIter It l i → Lz ≠ It := fun hit q => by obtain ⟨o, e, hc, c, hd⟩ := hzl; obtain ⟨o', e', hc', hd'⟩ := hit; rw [q, e'] at e; cases e; rw [hc] at hc'; exact absurd hc' (by decide)
  have hzX : (hideAll h₈ (C :: As :: If :: HL L)).IsList Lz zs.toArray := let ⟨o, e, q⟩ := hzl; ⟨o, hidden e LzC (li_ne hi₈) (li_ne hif₈) LzH, q⟩
  refine law_tell (Tg := Tg) (C := C) (As := As) (If := If) (Lz := Lz) (us := (firstsGo idf [] ns).take 2) (js := (stops (fun _ => false) 0 ns).take 2) hh hroom hfr (Z.keeps hX) BX SX mt₆ (hr.isList.at fun o e => hX _ o e) hI hlen hzX hIz (by rw [← uniq_first]) rfl ?_ hg₈ ?_ hn₈ hi₈ hif₈ (hideAll_none _ (.head _)) (hideAll_none _ (.tail _ (.head _))) (hideAll_none _ (.tail _ (.tail _ (.head _)))) CL CH AI fun s₉ m₉ S₉ hm₉ hA0 hA1 => ?_
  · obtain ⟨o, _, _, e, _⟩ := hg₈
    exact ⟨o, hidden e hCT.symm TA TI TH⟩
  · exact Array.getElem?_push_size ..
  · show wpAny _ _ (execs _ _) _ _ _
    have last : ∀ (i : Nat), s₉.heap.IsListIter As r i → (ns = [] → i = 0) → (ns ≠ [] → i = ns.idxOf (((firstsGo idf [] ns).take 2).getD (((firstsGo idf [] ns).take 2).length - 1) 0) + 1) →
        wpAny (model prog w) A (execs (lawBody.drop 7) (lawEnv L a)) (fun fl s' => fl = .ret (.bool true) ∧ ∃ n m cw cf, LS hb L n m cw cf s₀ s') E s₉ := fun i hi h0 h1 =>
      law_last hh hroom hu Z B (S₉.lower hX) (by decide) hr hI hns hlen (by rw [hm₉ _ (by decide)]; exact mr₆) (by rw [hm₉ _ (by decide)]; exact ma₆) bA hi h0 h1 fun hne => let q := taken_at hne rfl rfl; ⟨q.1, q.2.1⟩
    by_cases hne : ns = []
    · subst hne
      exact last 0 (hA0 rfl) (fun _ => rfl) fun q => absurd rfl q
    · obtain ⟨h1, h2, h3⟩ := taken_at hne rfl rfl
      exact last _ (hA1 h1 _ h3) (fun q => absurd q hne) fun _ => rfl
end
end
end Mine

namespace Mine
section
set_option maxRecDepth 100000
set_option linter.unusedVariables false
open PySem.Builtin

/-- what the walk needs of the heap's written part -/
structure FragOk (K : Frag) : Prop where
  ue : nsIn K mainGlobals "unique_everseen" = some (some (.ref 59))
  lf : nsIn K mainGlobals "_law_firsts" = some (some (.ref 64))
  ff : nsIn K mainGlobals "filterfalse" = some (some (.ref 47))
  miss : ((["set", "len", "list", "enumerate", "iter", "next", "bool"] : List Str).all fun x => nsIn K mainGlobals x == some none) = true
  o59 : ∃ doc pm ct an, K.lookup 59 = some { cls := .type "function", data := .func (ueFn doc pm ct an) }
  c58 : codeIn K (.ref 58) "unique_everseen" = true
  o52 : K.lookup 52 = some { cls := .type "tuple", data := .seq #[.none] }
  o64 : ∃ o pm doc, K.lookup 64 = some o ∧ o.data = .func (Calls.docDef "_law_firsts" lfParams lfBody lfScope pm (.ref 63) doc)
  c63 : codeIn K (.ref 63) "_law_firsts" = true
  makes : makesIn K 47 = true
  init : findIn K (.ref 47) "__init__" = some (some (.ref 29))
  tinit : typeIn K (.ref 29) = some (.type "function")
  iter : findIn K (.ref 47) "__iter__" = some (some (.ref 36))
  fiter : isFn K (.ref 36) = true
  next : findIn K (.ref 47) "__next__" = some (some (.ref 43))
  fnext : isFn K (.ref 43) = true
  cls : isClsIn K 47 = true
  seta : findIn K (.ref 47) "__setattr__" = some (some (.builtin "object.__setattr__"))
  plain : plainOver K 47 = true
  keep : keepIn K (.ref 47) = true
  sfunc : FfSlot K "_func" 48 0
  sit : FfSlot K "_it" 49 1
  o29 : ∃ doc pm ct an, K.lookup 29 = some { cls := .type "function", data := .func (ffFn 1 "__init__" "filterfalse.__init__" doc pm ct (.ref 28) an) }
  c28 : codeIn K (.ref 28) "filterfalse.__init__" = true
  o36 : ∃ doc pm ct an, K.lookup 36 = some { cls := .type "function", data := .func (ffFn 2 "__iter__" "filterfalse.__iter__" doc pm ct (.ref 35) an) }
  c35 : codeIn K (.ref 35) "filterfalse.__iter__" = true
  o43 : ∃ doc pm ct an, K.lookup 43 = some { cls := .type "function", data := .func (ffFn 3 "__next__" "filterfalse.__next__" doc pm ct (.ref 42) an) }
  c42 : codeIn K (.ref 42) "filterfalse.__next__" = true

theorem base_of {K : Frag} {h : Heap} {p : Program} {loose : List Str} {mean : ExcName → Option Value} {mg mb : Str → Option Value} (O : FragOk K) (X : K.In h) (T : Top p loose mean mg mb h) (C : CodeHd h 68 66) (h66 : h.get? 66 = none) : Base K mg mb h where
  G := ⟨T.g, T.b, T.builtins, fun x hx => mg_none_of X T.g (beq_iff_eq.mp (List.all_eq_true.mp O.miss x hx)), mg_of X T.g O.ue, mg_of X T.g O.lf, mg_of X T.g O.ff, T.nolimit⟩
  U := ⟨let ⟨d, q, c, a, e⟩ := O.o59; ⟨d, q, c, a, X _ _ e⟩, codeRec_of X O.c58, X _ _ O.o52⟩
  F := ⟨let ⟨o, q, d, e, z⟩ := O.o64; ⟨o, q, d, X _ _ e, z⟩, codeRec_of X O.c63⟩
  T := { inn := X, makes := O.makes, init := O.init, tinit := O.tinit, iter := O.iter, fiter := O.fiter, next := O.next, fnext := O.fnext, cls := O.cls, seta := O.seta, plain := O.plain, keep := O.keep, sfunc := O.sfunc, sit := O.sit,
         f29 := let ⟨d, q, c, a, e⟩ := O.o29; ⟨d, q, c, a, X _ _ e⟩, c28 := codeRec_of X O.c28, f36 := let ⟨d, q, c, a, e⟩ := O.o36; ⟨d, q, c, a, X _ _ e⟩, c35 := codeRec_of X O.c35, f43 := let ⟨d, q, c, a, e⟩ := O.o43; ⟨d, q, c, a, X _ _ e⟩, c42 := codeRec_of X O.c42 }
  code := C
  bm := by
    obtain ⟨bm, ob, b1, b2, b3, b4, b5, b6⟩ := T.bmain
    refine ⟨bm, ob, b1, b2, fun q => ?_, fun q => ?_, b3, b4, b5, b6⟩
    · obtain ⟨o, es, ep, e, hd, _⟩ := T.g
      rw [← q, b3] at e; cases e; rw [b6] at hd; cases hd
    · rw [q, h66] at b3; cases b3
end
end Mine

namespace Mine
section
set_option maxRecDepth 100000
set_option linter.unusedVariables false
open PySem.Builtin

section
variable {prog : Program} {w : World} {A : Around} {E : Value → Shared → Prop} {s : Shared} {h₀ : Heap} {K : Frag} {mg mb : Str → Option Value} {L a r : Addr} {m : Str → Option Value} {cw cf : Option Value} {ys : List Value} {ns : List Int}

theorem law_all {hf : Int} {th : Tok} {Q Q' : Flow → Shared → Prop} (hQ' : ∀ s', wpAny (model prog w) A (execs (lawBody.drop 3) (lawEnv L a)) Q E s' → Q' .next s') (hh : A.handled = none) (hroom : A.depth + 8 < recursionLimit) (hu : A.units + 64 < cLine) (hfr : A.frames = some [lawEnv L a])
    (Z : Base K mg mb h₀) (h66 : h₀.get? 66 = none) (lt : 66 < L) (F : Fr h₀ L s.heap m) (hc₁ : s.heap.IsCell (L + 1) cw) (hc₂ : s.heap.IsCell (L + 1 + 1) cf) (ht : s.heap.get? 66 = some (tabObj #[])) (hg : AllBare s.gens)
    (hp : s.heap.PlainList r ys.toArray) (hI : IntsAre ys ns) (hns : ∀ x ∈ ns, 0 ≤ x ∧ x < 12) (hlen : ns.length ≤ 60) (mr : m "row" = some (.ref r)) (mh : m "half" = some (.int hf th)) (h0 : 0 ≤ hf)
    (hQ : ∀ s', (∀ b o, h₀.get? b = some o → s'.heap.get? b = some o) → (∃ ps, s'.heap.get? 66 = some (tabObj ps)) → AllBare s'.gens → s'.os = s.os → Q (.ret (.bool true)) s') :
    wpAny (model prog w) A (exec forStmt (lawEnv L a)) Q' E s := by
  have B : LB (hideAll s.heap (HL L)) L := ⟨hideAll_none _ (.head _), hideAll_none _ (.tail _ (.head _)), hideAll_none _ (.tail _ (.tail _ (.head _))), hideAll_none _ (.tail _ (.tail _ (.tail _ (.head _)))), lt⟩
  have S : LS (hideAll s.heap (HL L)) L 0 m cw cf s s := ⟨fun b o q => of_hideAll _ q, F.ns, hc₁, hc₂, ⟨#[], ht, trivial, fun _ _ => rfl⟩, hg, rfl⟩
  have far : ∀ b, h₀.objs.size ≤ b → h₀.get? b = none := fun b hb => Heap.get?_none_of_le hb
  have st : h₀.StaysIn (hideAll s.heap (HL L)) := fun b o e => hideAll_get _ (F.keep b o e) fun q => by
    rcases List.mem_cons.mp q with q | q
    · rw [q, h66] at e; cases e
    rcases List.mem_cons.mp q with q | q
    · rw [q, far _ F.above] at e; cases e
    rcases List.mem_cons.mp q with q | q
    · rw [q, far _ (Nat.le_succ_of_le F.above)] at e; cases e
    rw [List.mem_singleton.mp q, far _ (Nat.le_succ_of_le (Nat.le_succ_of_le F.above))] at e; cases e
  have hrH := list_not S hp.isList
  have hr : (hideAll s.heap (HL L)).PlainList r ys.toArray := let ⟨c, e⟩ := hp; ⟨c, hideAll_get _ e hrH⟩
  refine law_for hh hroom hu (Z.keeps st) B hr.isList hI hns hlen h0 S (Nat.zero_le _) mr mh fun s₁ m₁ cw₁ cf₁ S₁ mr₁ mh₁ => hQ' _ (wpAny_mono (law_end hh hroom hu hfr (Z.keeps st) B S₁ (by decide) hr hI hns hlen mr₁) (fun fl s₂ h => ?_) fun _ _ x => x)
  obtain ⟨rfl, n₂, m₂, cw₂, cf₂, S₂⟩ := h
  exact hQ s₂ (fun b o e => S₂.stay _ _ (st b o e)) (let ⟨ps, e, _⟩ := S₂.tab; ⟨ps, e⟩) S₂.bare S₂.os
end
end
end Mine

namespace Mine
section
set_option maxRecDepth 100000 in
set_option maxHeartbeats 8000000 in
open_top hd for PySem.Challenge.rw_kl0468_01
end
end Mine

namespace Mine
section
set_option maxRecDepth 100000
set_option maxHeartbeats 8000000
theorem frag_ok (P : Params) : FragOk (hd.heap_39 P) where
  ue := by kernel_rfl
  lf := by kernel_rfl
  ff := by kernel_rfl
  miss := by kernel_rfl
  o59 := ⟨_, _, _, _, by rfl⟩
  c58 := by kernel_rfl
  o52 := by rfl
  o64 := ⟨_, _, _, by rfl, by rfl⟩
  c63 := by kernel_rfl
  makes := by kernel_rfl
  init := by kernel_rfl
  tinit := by kernel_rfl
  iter := by kernel_rfl
  fiter := by kernel_rfl
  next := by kernel_rfl
  fnext := by kernel_rfl
  cls := by kernel_rfl
  seta := by kernel_rfl
  plain := by kernel_rfl
  keep := by kernel_rfl
  sfunc := ⟨by kernel_rfl, by kernel_rfl, by kernel_rfl, by kernel_rfl, by kernel_rfl, by kernel_rfl, by kernel_rfl⟩
  sit := ⟨by kernel_rfl, by kernel_rfl, by kernel_rfl, by kernel_rfl, by kernel_rfl, by kernel_rfl, by kernel_rfl⟩
  o29 := ⟨_, _, _, _, by rfl⟩
  c28 := by kernel_rfl
  o36 := ⟨_, _, _, _, by rfl⟩
  c35 := by kernel_rfl
  o43 := ⟨_, _, _, _, by rfl⟩
  c42 := by kernel_rfl
end
end Mine

set_option maxRecDepth 100000 in
set_option maxHeartbeats 8000000 in
theorem PySem.Challenge.cw_kl0468_01_holds : PySem.Challenge.rw_kl0468_01.Holds := by
  refine Mine.hd ?_
  k_fill
  intro w s₀ s₁ mg mb G Y fa o pm cd doc dV kV ho hd hcd hD hmg hg args vals as hpre hlay hrd hwl hlo
  have KX := km_in_of Y
  km_tabs Y
  have X := (Ground.X G).1
  have V := (Ground.X G).2
  refine Ground.open G ?_
  intro T B D TE TW
  try (refine guard_noD D (by decide +kernel) ?_; clear D)
  km_lay T hmg ho hd cd
  clear hmg
  wrow_args hpre hlay hrd hwl hlo
  all_goals (
    first | refine callC_kw (enter_call ?_) | refine enter_call ?_
    w_top on
    refine Mine.post_law hT9 (fun _ _ => rfl) ?_ ?_
    · kc_post
    w_call any ho hd hcd hD T F
    clear hd
    kn_ghosts F T
    k_drop
    skip)
  (all_goals try k_fold)
  k_steps
  rename Fr _ _ _ _ => F9
  rename News _ _ _ _ => N9
  rename Frag.In _ _ => X9
  rename Top _ _ _ _ _ _ => T9
  rename CodeHd _ _ _ => C9
  rename IntsAre _ (List.map _ _) => I9
  refine' Mine.law_all (K := Mine.hd.heap_39 w.params) (fun _ h => h) rfl ?hroom ?hu rfl (Mine.base_of (Mine.frag_ok _) X9 T9 C9 ?h66) ?h67 ?lt F9 ?hc1 ?hc2 ?ht ?hg ?hp I9 ?hns ?hlen ?mr ?mh ?h0 ?hQ
  case mr => exact rfl
  case mh => exact rfl
  case hroom => (show callerA.depth + 1 + 8 < recursionLimit); decide
  case hu => (show callerA.units + 3 + 64 < cLine); decide
  case h66 => exact hideAll_none _ (.head _)
  case h67 => exact hideAll_none _ (.head _)
  case lt => assumption
  case hc1 => exact ⟨_, N9.get (by k_mem), by assumption⟩
  case hc2 => exact ⟨_, N9.get (by k_mem), by assumption⟩
  case ht => exact N9.get (by k_mem)
  case hg => exact AllBare.of_eq (by assumption)
  case hp => exact ⟨_, N9.get (by k_mem)⟩
  case hns =>
    intro x hx
    obtain ⟨y, _, hy⟩ := List.mem_map.mp hx
    rw [← hy]
    exact ⟨Int.fmod_nonneg_of_pos _ (by decide), Int.fmod_lt_of_pos _ (by decide)⟩
  case hlen => rw [List.length_map, List.length_take]; exact Nat.min_le_left _ _
  case h0 => exact Int.fdiv_nonneg (Int.natCast_nonneg _) (by decide)
  case hQ => exact fun s' h1 h2 h3 h4 => ⟨rfl, h1, h4, h3, h2, trivial⟩
