import PyProof.Rows.All
import Wide.All
import OpenK.AllK
import Wide.FinOn
import Lean
import PySem.Challenge.RW_ik0051_01
set_option Elab.async false
section
open PySem PySem.W PyProof.Rows
namespace Mine
section
local macro_rules | `(tactic| o_head $_) => `(tactic| skip)
set_option maxRecDepth 100000 in
set_option maxHeartbeats 8000000 in
/-- lays the written part hd.heap_1, nothing else -/
theorem hd (h : PySem.Challenge.rw_ik0051_01.row.Holds) : PySem.Challenge.rw_ik0051_01.row.Holds := by
  k_head
  exact h
end
end Mine
end
local macro_rules | `(tactic| walk_at $s:str) => `(tactic| k_extra $s)
section
open PySem PySem.W PyProof.Rows
set_option maxRecDepth 100000
namespace Mine
open PySem PySem.Spec PySem.Calls PyProof.Rows PySem.W
/-- what a call of f with vs gives back: R of the value and of what it adds to the ledger -/
noncomputable abbrev Con (w : World) (p : Program) (loose : List Str) (mean : ExcName → Option Value) (mg mb : Str → Option Value) (f : Addr) (vs : List Value) (d : Nat) (news : List (Addr × Obj)) (R : Value → List (Addr × Obj) → Prop) : Prop :=
  ∀ (dp un : Nat) (gd : Option (List Code)) (cn : Str) (cs : Scope) (a : Addr) (ccd : Value) (cl : List (Str × Addr)) (outer : List Env) (A₀ : Around) (base h₀ : Heap) (L : Addr) (m : Str → Option Value) (s : Shared) (Q E : Value → Shared → Prop),
    Below A₀ base outer h₀ → Fr h₀ L s.heap m → (hd.heap_1 w.params).In h₀ → News h₀ L s.heap news → Top p loose mean mg mb h₀ → cs.kind = .function →
    dp + d < recursionLimit → un + 8 * d < cLine →
    (∀ r h' tk' tl, Fr h₀ L h' m → News h₀ L h' (tl ++ news) → R r tl → Q r { s with heap := h', toks := tk' }) →
    wpAny (model PySem.Challenge.rw_ik0051_01.row.prog w) (ktrTop dp un gd cn cs L a ccd cl outer) (call (.ref f) vs) Q E s
end Mine
end
section
open PySem PySem.W PyProof.Rows PySem.Spec PySem.Calls
set_option maxRecDepth 100000
namespace Mine
theorem con_use {w : World} {p : Program} {loose : List Str} {mean : ExcName → Option Value} {mg mb : Str → Option Value} {f : Addr} {vs : List Value} {d : Nat} {news : List (Addr × Obj)} {R : Value → List (Addr × Obj) → Prop}
    (C : Con w p loose mean mg mb f vs d news R)
    {dp un : Nat} {gd : Option (List Code)} {cn : Str} {cs : Scope} {a : Addr} {ccd : Value} {cl : List (Str × Addr)} {outer : List Env} {A₀ : Around} {base h₀ : Heap} {L : Addr} {m : Str → Option Value} {s : Shared} {Q E : Value → Shared → Prop}
    (B : Below A₀ base outer h₀) (F : Fr h₀ L s.heap m) (X : (hd.heap_1 w.params).In h₀) (N : News h₀ L s.heap news) (T : Top p loose mean mg mb h₀) (hk : cs.kind = .function)
    (hd : dp + d < recursionLimit) (hu : un + 8 * d < cLine)
    (ret : ∀ r h' tk' tl, R r tl → Fr h₀ L h' m → News h₀ L h' (tl ++ news) → Q r { s with heap := h', toks := tk' }) :
    wpAny (model PySem.Challenge.rw_ik0051_01.row.prog w) (ktrTop dp un gd cn cs L a ccd cl outer) (call (.ref f) vs) Q E s :=
  C _ _ _ _ _ _ _ _ _ _ _ _ _ _ _ _ _ B F X N T hk hd hu fun r h' tk' tl f1 n1 r1 => ret r h' tk' tl r1 f1 n1
theorem con_useN {w : World} {p : Program} {loose : List Str} {mean : ExcName → Option Value} {mg mb : Str → Option Value} {f : Addr} {vs : List Value} {d : Nat} {news : List (Addr × Obj)} {R : Value → List (Addr × Obj) → Prop}
    {dp un : Nat} {gd : Option (List Code)} {cn : Str} {cs : Scope} {a : Addr} {ccd : Value} {cl : List (Str × Addr)} {outer : List Env} {A₀ : Around} {base h₀ : Heap} {L : Addr} {m : Str → Option Value} {s : Shared} {Q E : Value → Shared → Prop}
    (N : News h₀ L s.heap news) (B : Below A₀ base outer h₀) (F : Fr h₀ L s.heap m) (X : (hd.heap_1 w.params).In h₀) (T : Top p loose mean mg mb h₀) (hk : cs.kind = .function)
    (hd : dp + d < recursionLimit) (hu : un + 8 * d < cLine) (C : Con w p loose mean mg mb f vs d news R)
    (ret : ∀ r h' tk' tl, R r tl → Fr h₀ L h' m → News h₀ L h' (tl ++ news) → Q r { s with heap := h', toks := tk' }) :
    wpAny (model PySem.Challenge.rw_ik0051_01.row.prog w) (ktrTop dp un gd cn cs L a ccd cl outer) (call (.ref f) vs) Q E s := con_use C B F X N T hk hd hu ret
/-- the walk's running number made a letter again -/
theorem gen_tok {M : Model} {A : Around} {X : Sem Flow} {Q : Flow → Shared → Prop} {E : Value → Shared → Prop} {h : Heap} {g d o} {k : Nat} (H : ∀ k', wpAny M A X Q E ⟨h, g, d, k', o⟩) : wpAny M A X Q E ⟨h, g, d, k + 1, o⟩ := H _
/-- a statement's way on, named -/
theorem execs_let {M : Model} {A : Around} {s : Shared} {env : Env} {E : Value → Shared → Prop} {st : Stmt} {rest : List Stmt} {Q : Flow → Shared → Prop}
    (h : let K : Flow → Shared → Prop := fun f s' => match f with | .next => wpAny M A (execs rest env) Q E s' | f => Q f s'
      wpAny M A (exec st env) K E s) : wpAny M A (execs (st :: rest) env) Q E s := wpAny_execs_cons h
section
variable {M : Model} {A : Around} {E : Value → Shared → Prop} {env : Env} {h : Heap} {g d o} {k : Nat} {Q : Value → Shared → Prop} {prog : Program} {w : World} {a b : Int} {t u : Tok}
/-! the small steps over a written state: no word of the state is left folded -/
theorem m_int {i : Int} {kk : Nat} {pos : Pos} (H : Q (.int i k) ⟨h, g, d, k + 1, o⟩) : wpAny M A (eval (.Constant (.int i) kk pos) env) Q E ⟨h, g, d, k, o⟩ := wpAny_Constant_int H
theorem m_str {x : Str} {kk : Nat} {pos : Pos} (H : Q (.str x k) ⟨h, g, d, k + 1, o⟩) : wpAny M A (eval (.Constant (.str x) kk pos) env) Q E ⟨h, g, d, k, o⟩ := Calls.Constant_str H
theorem m_add (H : Q (.int (a + b) k) ⟨h, g, d, k + 1, o⟩) : wpAny (model prog w) A (binaryOp .Add (.int a t) (.int b u)) Q E ⟨h, g, d, k, o⟩ := PyProof.Rows.add_int H
theorem m_sub (H : Q (.int (a - b) k) ⟨h, g, d, k + 1, o⟩) : wpAny (model prog w) A (binaryOp .Sub (.int a t) (.int b u)) Q E ⟨h, g, d, k, o⟩ := PyProof.Rows.sub_int H
theorem m_iadd (H : Q (.int (a + b) k) ⟨h, g, d, k + 1, o⟩) : wpAny (model prog w) A (inplaceOp .Add (.int a t) (.int b u)) Q E ⟨h, g, d, k, o⟩ := PyProof.Rows.iadd_int H
theorem m_neg (H : Q (.int (-a) k) ⟨h, g, d, k + 1, o⟩) : wpAny (model prog w) A (unaryOp .USub (.int a t)) Q E ⟨h, g, d, k, o⟩ := PyProof.Rows.neg_int H
end
end Mine
end
section
open PySem PySem.W PyProof.Rows PySem.Spec PySem.Calls
set_option maxRecDepth 100000
namespace Mine
noncomputable def bmObj (l : Addr) : Obj := { cls := .type "builtin_function_or_method", data := .fields #[.builtin "list.append", .ref l] }
theorem lk_append : typeLookup (.type "list") "append" = pure (some (.builtin "list.append")) := F.slot_list_append.lookup
theorem ty_append : typeOf (.builtin "list.append") = pure (.type "method_descriptor") := by show builtinType _ = _; rw [builtinType_eq_fast]; kernel_rfl
theorem md_get : typeLookup (.type "method_descriptor") "__get__" = pure (some (.builtin "method_descriptor.__get__")) := by rw [typeLookup_type, builtinLookup_eq_fast]; kernel_rfl
theorem md_set : typeLookup (.type "method_descriptor") "__set__" = pure none := by rw [typeLookup_type, builtinLookup_eq_fast]; kernel_rfl
theorem md_del : typeLookup (.type "method_descriptor") "__delete__" = pure none := by rw [typeLookup_type, builtinLookup_eq_fast]; kernel_rfl
theorem sub_list_list' : isSubtype (.type "list") (.type "list") = pure true := by rw [isSubtype_type]; kernel_rfl
theorem slot_md_get : Slot "method_descriptor" "__get__" "method_descriptor.__get__" :=
  .of (owner := "method_descriptor") (n := "__get__") md_get (by decide +kernel) (by decide +kernel) (by decide +kernel)
    (by first | exact .inl (by decide +kernel) | exact .inr (by decide +kernel)) (by rw [isSubtype_type]; kernel_rfl)
theorem entry_md_get : entryFor table "method_descriptor.__get__" = some Builtin.«method_descriptor.__get__» := entryFor_of_tree (by kernel_rfl)
theorem args_md_get (a b c : Value) : argsOk "method_descriptor.__get__" ⟨[a, b, c], []⟩ := by unfold argsOk; kernel_rfl
theorem told_append : Manifest.toldItsClass.contains "list.append" = false := by decide +kernel

set_option maxHeartbeats 1000000 in
theorem md_get_append (a : Addr) : Meets (Builtin.«method_descriptor.__get__» ⟨[.builtin "list.append", .ref a, .type "list"], []⟩)
    (fun _ R s => s.TypeIs (.ref a) "list" ∧ R (.ok (.ret (.ref s.heap.objs.size))) { s with heap := s.heap.push (bmObj a) }) :=
  Meets.of_wp fun prog w A R s hs => by
    obtain ⟨hp, g, d, tk, os⟩ := s
    obtain ⟨hT, hs⟩ := hs
    have f1 := told_append
    have f2 := sub_list_list'
    unfold Builtin.«method_descriptor.__get__»
    repeat (any_goals (first | assumption | wp_step))
    rw [show ".".intercalate ("list.append".cutAt '.').dropLast = "list" from by decide +kernel]
    refine wpAny_of_eq f2 ?_
    rw [if_neg (by decide)]
    refine wpAny_pure ?_
    refine wpAny_bind ?_
    unfold newFields
    refine wpAny_newObj_type ?_ (by simp [sizeOk, sizeLine])
    exact wpAny_pure ⟨_, rfl, hs⟩

set_option maxHeartbeats 1000000 in
theorem ga_append (a : Addr) (xs : Array Value) (k : Nat) (u : Tok) : Meets (Builtin.«object.__getattribute__» ⟨[.ref a, .str (Str.ofString "append") u], []⟩)
    (fun _ R s => s.heap.get? a = some { cls := .type "list", data := .seq xs k } ∧ R (.ok (.ret (.ref s.heap.objs.size))) { s with heap := s.heap.push (bmObj a) }) :=
  Meets.of_wp fun prog w A R s hs => by
    obtain ⟨hp, g, d, tk, os⟩ := s
    obtain ⟨hx, hs⟩ := hs
    have hT : (⟨hp, g, d, tk, os⟩ : Shared).TypeIs (.ref a) "list" := ⟨_, hx, rfl⟩
    have f1 := lk_append
    have f2 := ty_append
    have f3 := md_get
    have f4 := md_set
    have f5 := md_del
    unfold Builtin.«object.__getattribute__»
    repeat (any_goals (first | assumption | wp_step))
    refine codeAny_call_builtin slot_md_get.plain entry_md_get (slot_md_get.check _ _ _ _ _ _ _ _ f2 (args_md_get _ _ _) (md_get_append a prog w A.in1 (wants (fun v s' => wpAny (model prog w) A.in1 (ret v) (fun fin s' => ∃ v, fin = Fin.done (Flow.ret v) ∧ R (Except.ok (Flow.ret v)) s') (fun e s' => R (Except.error e) s') s') (fun e s' => R (.error e) s')) _ ⟨hT, ?_⟩))
    exact wpAny_pure ⟨_, rfl, hs⟩

set_option maxHeartbeats 1000000 in
theorem getAttr_append {prog : Program} {w : World} {A : Around} {E : Value → Shared → Prop} {s : Shared} {a : Addr} {xs : Array Value} {k : Nat} {Q : Value → Shared → Prop}
    (hx : s.heap.get? a = some { cls := .type "list", data := .seq xs k }) (hA : A.handled = none)
    (h : ∀ tk, Q (.ref s.heap.objs.size) { s with heap := s.heap.push (bmObj a), toks := tk }) :
    wpAny (model prog w) A (getAttr (.ref a) (Str.ofString "append") true) Q E s := by
  obtain ⟨hp, g, d, tk, os⟩ := s
  have hT : ∀ tk', (⟨hp, g, d, tk', os⟩ : Shared).TypeIs (.ref a) "list" := fun _ => ⟨_, hx, rfl⟩
  have f3 := F.slot_list_getattribute.lookup
  have f4 := F.slot_list_getattribute.bind (.ref a)
  have f5 := am_list_getattr_none
  unfold getAttr getAttrBy
  repeat (any_goals (first | assumption | exact hT _ | ((with_reducible show wpAny _ _ (call (Value.builtin "list.__getattribute__") _ _) _ _ _); refine call_meets F.slot_list_getattribute (hT _) am_entry_list_getattribute (F.args_list_getattribute_2 _ _) (ga_append a xs k _) ⟨hx, ?_⟩) | wp_step))
  exact wpAny_pure (h _)
end Mine
end
section
open PySem PySem.W PyProof.Rows PySem.Spec PySem.Calls
set_option maxRecDepth 100000
namespace Mine
section
variable {prog : Program} {w : World} {A : Around} {E : Value → Shared → Prop} {s : Shared}
theorem sub_list_module : isSubtype (.type "list") (.type "module") = pure false := by rw [isSubtype_type]; kernel_rfl
theorem sig_append : ∃ sig, Manifest.signature? "list.append" = some sig ∧ ∀ a b, Bind.checkArgs "list.append" { sig with full := toString (Bind.lastOf "list") ++ toString "." ++ toString (Bind.lastOf "list.append") } ⟨[a, b], []⟩ = pure () := by
  refine ⟨_, by rw [signature?_of (id := "list.append") (n := ['d', 'n', 'e', 'p', 'p', 'a']) (o := ['t', 's', 'i', 'l']) (by kernel_rfl) F.owner_list]; rfl, fun a b => ?_⟩
  kernel_rfl
theorem kind_append : builtinKind "list.append" = some .method := by decide +kernel
set_option maxHeartbeats 1000000 in
theorem check_append {a : Addr} {v : Value} {o : Obj} {Q : Unit → Shared → Prop} (ho : s.heap.get? a = some o) (hc : o.cls = .type "list") {xs : Array Value} {k : Nat} (hd : o.data = .seq xs k) (h : Q () s) :
    wpAny (model prog w) A (checkBoundCall "list.append" ⟨[.ref a, v], []⟩) Q E s := by
  obtain ⟨c, dd, dt, sl⟩ := o
  simp only at hc hd
  subst hc hd
  obtain ⟨sig, h1, h2⟩ := sig_append
  have hT : s.TypeIs (.ref a) "list" := ⟨_, ho, rfl⟩
  have f1 := sub_list_module
  unfold checkBoundCall
  rw [h1, kind_append]
  dsimp only
  rw [if_neg (by decide)]
  refine wpAny_bind (wpAny_isInstance hT f1 ?_)
  rw [if_neg (by decide +kernel)]
  refine wpAny_bind ?_
  unfold isType
  refine wpAny_bind (wpAny_loadPart ho (wpAny_pure ?_))
  dsimp only
  rw [if_neg (by decide)]
  refine wpAny_bind (wpAny_typeOf hT ?_)
  dsimp only
  rw [h2]
  exact wpAny_pure h

theorem call_bm {b a : Addr} {v : Value} {xs : Array Value} {k : Nat} {Q : Value → Shared → Prop} (hb : s.heap.get? b = some (bmObj a)) (ho : s.heap.get? a = some { cls := .type "list", data := .seq xs k })
    (h : ∀ h', Heap.SameBut a s.heap h' → h'.get? a = some { cls := .type "list", data := .seq (xs.push v) (k + 1) } → Q .none { s with heap := h' }) (hsz : xs.size ≤ sizeLine) :
    wpAny (model prog w) A (call (.ref b) [v]) Q E s := by
  refine wpAny_call (codeAny_of_tree ?_)
  show wpAny _ _ (callAny (.ref b) ⟨[v], []⟩) _ _ s
  rw [Around.under_plain (show (Code.call (.ref b) ⟨[v], []⟩).weight = 0 from rfl) rfl]
  unfold callAny
  dsimp only
  refine wpAny_bind (wpAny_load hb ?_)
  dsimp only [bmObj]
  rw [if_pos (by decide)]
  show wpAny _ _ (if (Value.type "builtin_function_or_method" != Value.type "method") = true then (do checkBoundCall "list.append" ⟨[.ref a, v], []⟩; again (.builtin "list.append" ⟨[.ref a, v], []⟩)) else again (.call (.builtin "list.append") ⟨[.ref a, v], []⟩)) _ _ s
  rw [if_pos (by decide)]
  refine wpAny_bind (check_append ho rfl rfl ?_)
  refine wpAny_pure ⟨plainId_quiet slot_list_append.plain _, codeAny_builtin entry_list_append ?_⟩
  rw [Around.under_plainId slot_list_append.plain _]
  show wpAny _ _ (updateSeq a (·.push v) >>= fun _ => ret .none) _ _ s
  refine wpAny_bind ?_
  refine wpAny_updateSeq ho rfl (wpAny_pure ?_)
  refine h _ (Heap.SameBut.update ..) ?_
  rw [Heap.get?_update_self _ ho (by rw [mapSeq_push]; rfl), mapSeq_push]
end

section
variable {prog : Program} {w : World} {A : Around} {E : Value → Shared → Prop} {s : Shared} {h₀ : Heap} {L b a : Addr} {m : Str → Option Value} {news news' : List (Addr × Obj)}
/-- res.append as a value: a new object on the ledger -/
theorem getAttr_append_K {xs : Array Value} {k : Nat} {Q : Value → Shared → Prop} (F : Fr h₀ L s.heap m) (N : News h₀ L s.heap news) (hm : (a, listOf xs k) ∈ news) (hA : A.handled = none)
    (h : ∀ b h' tk, Fr h₀ L h' m → News h₀ L h' ((b, bmObj a) :: news) → (∀ p ∈ news, p.1 < b) → Q (.ref b) { s with heap := h', toks := tk }) : wpAny (model prog w) A (getAttr (.ref a) (Str.ofString "append") true) Q E s :=
  getAttr_append (N.get hm) hA fun tk => h _ _ tk (F.push _) (News.push F N _) fun p hp => Heap.lt_size (N p hp).1
/-- the call of it -/
theorem call_bm_K {v : Value} {xs : Array Value} {k : Nat} {Q : Value → Shared → Prop} (F : Fr h₀ L s.heap m) (N : News h₀ L s.heap news) (hb : (b, bmObj a) ∈ news) (U : Upd a (listOf xs k) (listOf (xs.push v) (k + 1)) news news')
    (h : ∀ h', Fr h₀ L h' m → News h₀ L h' news' → Q .none { s with heap := h' }) (hsz : xs.size ≤ sizeLine) : wpAny (model prog w) A (call (.ref b) [v]) Q E s := by
  obtain ⟨pre, post, rfl, rfl, c1, c2⟩ := U.split
  have z := N (a, listOf xs k) (List.mem_append.mpr (.inr (.head _)))
  exact call_bm (N.get hb) z.1 (fun h' hs ho' => h h' (F.change hs z.2.1 z.2.2) (news_set N c1 c2 hs ho')) hsz
end
section
variable {M : Model} {A : Around} {E : Value → Shared → Prop} {s : Shared} {env : Env} {pos : Pos} {first : List Value} {Q : Value → Shared → Prop}
theorem keeps_bm {b a : Addr} (h : Heap) (X : h.get? b = some (bmObj a)) : ∃ k, (k = Keeper.frame ∨ k = Keeper.machine ∨ k = Keeper.boundFrame) ∧ Looks M h (keeperOf (.ref b)) k :=
  ⟨.machine, .inr (.inl rfl), (Looks.ld (part := none) X).andThen .now⟩
theorem callWith_bm {h₀ : Heap} {L b a : Addr} {news : List (Addr × Obj)} {e : Expr} {rest : List Expr} (_N : News h₀ L s.heap news) (_b : (b, bmObj a) ∈ news)
    (h : wpAny M A (spliced (backTo pos (starEach (e :: rest) env))) (fun vs s₁ => s₁.heap.get? b = some (bmObj a) ∧ wpAny M A (call (.ref b) (first ++ vs)) Q E s₁) E s)
    (he : starEach (e :: rest) env = (false, eval e env) :: starEach rest env := by rfl) (hplain : (backTo pos (starEach rest env)).any (·.1) = false := by rfl) :
    wpAny M A (callWith pos (.ref b) first (backTo pos (starEach (e :: rest) env)) []) Q E s := by
  rw [he] at h ⊢
  exact callWith_of (P := fun h => h.get? b = some (bmObj a)) (by show ((false || (backTo pos (starEach rest env)).any (·.1)) || false) = false; rw [hplain]; rfl) keeps_bm (evalArgs_plain h)
end
section
variable {prog : Program} {w : World} {A : Around} {E : Value → Shared → Prop} {s : Shared} {x y : Str} {t u : Tok} {Q : Value → Shared → Prop}
end
end Mine
end
section
open PySem
set_option maxRecDepth 100000
namespace Mine
open PySem.Sre

noncomputable def ipCode : Array Nat := #[14, 8, 1, 2, 4294967295, 1, 1, 46, 0, 16, 46, 24, 9, 1, 4294967295, 13, 4, 8, 0, 0, 1, 6, 5, 1]

noncomputable def stepN : Nat → M → M
  | 0, m => m
  | k + 1, m => stepN k m.step
theorem stepN_add (a b : Nat) (m : M) : stepN (a + b) m = stepN b (stepN a m) := by
  induction a generalizing m with
  | zero => simp [stepN]
  | succ a ih => rw [Nat.succ_add]; exact ih m.step
theorem step_done {m : M} (h : m.outcome.isSome = true) : m.step = m := by unfold M.step; simp [h]
theorem stepN_done {m : M} (h : m.outcome.isSome = true) (k : Nat) : stepN k m = m := by
  induction k with
  | zero => rfl
  | succ k ih => show stepN k m.step = m; rw [step_done h]; exact ih
theorem runFor_eq (k : Nat) (m : M) : M.runFor k m = stepN k m := by
  induction k generalizing m with
  | zero => rfl
  | succ k ih =>
    show (if m.outcome.isSome then m else M.runFor k m.step) = stepN k m.step
    by_cases h : m.outcome.isSome = true
    · rw [if_pos h, step_done h, stepN_done h]
    · rw [if_neg h]; exact ih _

/-- the engine's state on this pattern -/
noncomputable def St (T : Array Nat) (start pc pos handed : Nat) (om : Bool) (fr : List Sre.Frame) (wt : Nat) (an : Option Bool) (oc : Option Sre.Outcome) (sn : Seen) : M :=
  { code := ipCode, text := T, lim := T.size, start := start, lastStart := T.size, pc := pc, pos := pos, handed := handed, outermost := om, marks := #[], frames := fr, weight := wt, answer := an, outcome := oc, seen := sn }

noncomputable def nx (pc pos : Nat) (om : Bool) : Sre.Frame := { wait := .nextStart, pc := pc, pos := pos, outermost := om }
noncomputable def gb (pos : Nat) (om : Bool) (c : Int) : Sre.Frame := { wait := .giveBack, pc := 11, pos := pos, outermost := om, count := c }

theorem accepts_digit (c : Nat) (sn : Seen) : ∃ sn', accepts ipCode 15 c sn = .ok (isDigit c, sn') := by
  cases h : isDigit c
  · refine ⟨((sn.add 8).add 55).add 0, ?_⟩
    simp [accepts, ipCode, ops, inSet, category, h, Except.map, bind, Except.bind, pure, Except.pure]
  · refine ⟨(sn.add 8).add 55, ?_⟩
    simp [accepts, ipCode, ops, inSet, category, h, Except.map, bind, Except.bind, pure, Except.pure]

/-- how many digits stand from p on, at most n -/
noncomputable def digs (T : Array Nat) : (n p : Nat) → Nat
  | 0, _ => 0
  | n + 1, p => if isDigit (T.getD p 0) then digs T n (p + 1) + 1 else 0
theorem run_digs (T : Array Nat) (n : Nat) : ∀ p f sn, ∃ sn', Sre.run ipCode T 15 n p f sn = .ok (f + digs T n p, sn') := by
  induction n with
  | zero => intro p f sn; exact ⟨sn, rfl⟩
  | succ n ih =>
    intro p f sn
    obtain ⟨sn', e⟩ := accepts_digit (T.getD p 0) sn
    unfold Sre.run
    rw [e]
    cases h : isDigit (T.getD p 0)
    · refine ⟨sn', ?_⟩
      simp only [digs, h, bind, Except.bind, pure, Except.pure, Bool.false_eq_true, if_false, Nat.add_zero]
    · obtain ⟨sn'', e2⟩ := ih (p + 1) (f + 1) sn'
      refine ⟨sn'', ?_⟩
      simp only [bind, Except.bind, if_true, e2, digs, h]
      congr 2; omega

theorem step_exec {m : M} (h1 : m.outcome = none) (h2 : m.answer = none) (h3 : m.pc < m.code.size) : m.step = m.exec := by
  unfold M.step
  simp only [h1, h2, Option.isSome_none, Bool.false_eq_true, if_false, if_pos h3]
theorem step_resume {m : M} {yes : Bool} {f : Sre.Frame} {rest : List Sre.Frame} (h1 : m.outcome = none) (h2 : m.answer = some yes) (h3 : m.frames = f :: rest) :
    m.step = M.resume { m with answer := none, frames := rest, weight := m.weight - (1 + f.kept.marks.size), pc := f.pc, pos := f.pos, outermost := f.outermost } f yes := by
  unfold M.step
  simp only [h1, h2, h3, Option.isSome_none, Bool.false_eq_true, if_false]
theorem step_end {m : M} {yes : Bool} (h1 : m.outcome = none) (h2 : m.answer = some yes) (h3 : m.frames = []) : m.step = { m with outcome := some (if yes then .matched else .failed) } := by
  unfold M.step
  simp only [h1, h2, h3, Option.isSome_none, Bool.false_eq_true, if_false]

section
variable {T : Array Nat} {start pc pos hd wt : Nat} {om : Bool} {fr : List Sre.Frame} {sn : Seen}
theorem st_lit_eq : (St T start 9 pos hd om fr wt none none sn).exec =
    if pos ≥ T.size then St T start 9 pos hd om fr wt (some false) none (sn.add 16) else
    match (Except.ok (T.getD pos 0 == 46, sn.add 16) : Except String (Bool × Seen)) with
    | .error why => (St T start 9 pos hd om fr wt none none (sn.add 16)).stick why
    | .ok (false, sn') => St T start 9 pos hd om fr wt (some false) none sn'
    | .ok (true, sn') => St T start 11 (pos + 1) hd om fr wt none none sn' := rfl
theorem st_lit (h : pos < T.size) : ∃ sn', (St T start 9 pos hd om fr wt none none sn).step =
    if T.getD pos 0 == 46 then St T start 11 (pos + 1) hd om fr wt none none sn' else St T start 9 pos hd om fr wt (some false) none sn' := by
  refine ⟨sn.add 16, ?_⟩
  rw [step_exec rfl rfl (by decide : 9 < 24), st_lit_eq, if_neg (by omega)]
  cases hc : (T.getD pos 0 == 46) <;> rfl
theorem st_lit_out (h : T.size ≤ pos) : ∃ sn', (St T start 9 pos hd om fr wt none none sn).step = St T start 9 pos hd om fr wt (some false) none sn' := by
  refine ⟨sn.add 16, ?_⟩
  rw [step_exec rfl rfl (by decide : 9 < 24), st_lit_eq, if_pos (by omega)]

theorem st_rep_eq : (St T start 11 pos hd om fr wt none none sn).exec =
    if ((1 : Nat) : Int) > (T.size : Int) - pos then St T start 11 pos hd om fr wt (some false) none (sn.add 24) else
    match Sre.run ipCode T 15 (min 4294967295 ((T.size : Int) - pos).toNat) pos 0 ((sn.add 24).add 13) with
    | .error why => (St T start 11 pos hd om fr wt none none (sn.add 24)).stick why
    | .ok (n, sn') => if n < 1 then St T start 11 pos hd om fr wt (some false) none sn' else
        (St T start 11 (pos + n) hd om fr wt none none sn').afterRun .giveBack n {} := rfl
theorem st_after {k : Nat} {c : Int} (hw : wt + 1 ≤ 16777216) : (St T start 11 k hd om fr wt none none sn).afterRun .giveBack c {} = St T start 21 k k om (gb k om c :: fr) (wt + 1) none none sn := by
  show (if wt + 1 + 0 > 16777216 then _ else _) = _
  rw [if_neg (by omega)]
  rfl
theorem st_rep_out (h : T.size ≤ pos) : ∃ sn', (St T start 11 pos hd om fr wt none none sn).step = St T start 11 pos hd om fr wt (some false) none sn' := by
  refine ⟨sn.add 24, ?_⟩
  rw [step_exec rfl rfl (by decide : 11 < 24), st_rep_eq, if_pos (by omega)]
theorem st_rep (h : pos < T.size) (hT : T.size < 4294967295) (hw : wt + 1 ≤ 16777216) : ∃ sn', (St T start 11 pos hd om fr wt none none sn).step =
    if digs T (T.size - pos) pos = 0 then St T start 11 pos hd om fr wt (some false) none sn'
    else St T start 21 (pos + digs T (T.size - pos) pos) (pos + digs T (T.size - pos) pos) om (gb (pos + digs T (T.size - pos) pos) om (digs T (T.size - pos) pos) :: fr) (wt + 1) none none sn' := by
  have e1 : min 4294967295 ((T.size : Int) - pos).toNat = T.size - pos := by omega
  obtain ⟨sn', e2⟩ := run_digs T (T.size - pos) pos 0 ((sn.add 24).add 13)
  refine ⟨sn', ?_⟩
  rw [step_exec rfl rfl (by decide : 11 < 24), st_rep_eq, if_neg (by omega), e1, e2]
  simp only [Nat.zero_add]
  by_cases h0 : digs T (T.size - pos) pos = 0
  · rw [if_pos h0, if_pos (by omega)]
  · rw [if_neg h0, if_neg (by omega), st_after hw]

theorem st_at_eq : (St T start 21 pos hd om fr wt none none sn).exec =
    if (pos == T.size || (pos + 1 == T.size && T.getD pos 0 == 10)) = true then St T start 23 pos hd om fr wt none none ((sn.add 6).add 48) else St T start 21 pos hd om fr wt (some false) none ((sn.add 6).add 48) := rfl
theorem st_at_yes (h : pos = T.size) : ∃ sn', (St T start 21 pos hd om fr wt none none sn).step = St T start 23 pos hd om fr wt none none sn' := by
  refine ⟨(sn.add 6).add 48, ?_⟩
  rw [step_exec rfl rfl (by decide : 21 < 24), st_at_eq, if_pos (by simp [h])]
theorem st_at_no (h : pos < T.size) (hn : T.getD pos 0 ≠ 10) : ∃ sn', (St T start 21 pos hd om fr wt none none sn).step = St T start 21 pos hd om fr wt (some false) none sn' := by
  refine ⟨(sn.add 6).add 48, ?_⟩
  rw [step_exec rfl rfl (by decide : 21 < 24), st_at_eq, if_neg (by
    simp only [Bool.or_eq_true, Bool.and_eq_true, beq_iff_eq, not_or, not_and]
    exact ⟨by omega, fun _ => hn⟩)]
theorem st_succ : ∃ sn', (St T start 23 pos hd om fr wt none none sn).step = St T start 23 pos pos om fr wt (some true) none sn' := by
  refine ⟨sn.add 1, ?_⟩
  rw [step_exec rfl rfl (by decide : 23 < 24)]
  show (if (om && ((false && pos != T.size) || (false && pos == start))) = true then _ else _) = _
  rw [if_neg (by simp)]
  rfl
theorem st_gb_yes {p : Nat} {o : Bool} {c : Int} : (St T start pc pos hd om (gb p o c :: fr) (wt + 1) (some true) none sn).step = St T start 11 p hd o fr wt (some true) none sn := by
  rw [step_resume rfl rfl rfl]
  rfl
theorem st_gb_no {p : Nat} {o : Bool} {c : Int} (hw : wt + 1 ≤ 16777216) : (St T start pc pos hd om (gb p o c :: fr) (wt + 1) (some false) none sn).step =
    if c - 1 < 1 then St T start 11 p hd o fr wt (some false) none sn else St T start 21 (p - 1) (p - 1) o (gb (p - 1) o (c - 1) :: fr) (wt + 1) none none sn := by
  rw [step_resume rfl rfl rfl]
  show (if c - 1 < ((1 : Nat) : Int) then _ else (St T start 11 (p - 1) hd o fr wt none none sn).afterRun .giveBack (c - 1) {}) = _
  rw [st_after hw]
  rfl
theorem st_nx_yes {p q : Nat} {o : Bool} : (St T start pc pos hd om (nx q p o :: fr) (wt + 1) (some true) none sn).step = St T start q p hd o fr wt (some true) none sn := by
  rw [step_resume rfl rfl rfl]
  rfl
theorem st_first (hw : wt + 1 ≤ 16777216) {p : Nat} {b : Bool} : (St T start 9 pos hd om fr wt none none sn).attemptFrom p b = St T p 9 p p b (nx 9 p b :: fr) (wt + 1) none none sn := by
  show (if wt + 1 + 0 > 16777216 then _ else _) = _
  rw [if_neg (by omega)]
  rfl
theorem st_nx_no {p : Nat} {o : Bool} (hw : wt + 1 ≤ 16777216) : (St T start pc pos hd om (nx 9 p o :: fr) (wt + 1) (some false) none sn).step =
    if p < T.size then St T (p + 1) 9 (p + 1) (p + 1) false (nx 9 (p + 1) false :: fr) (wt + 1) none none sn else St T start 9 p hd o fr wt (some false) none sn := by
  rw [step_resume rfl rfl rfl]
  show (if p < T.size then (St T start 9 p hd o fr wt none none sn).attemptFrom (p + 1) false else _) = _
  rw [st_first hw]
  rfl
theorem st_done {b : Bool} : (St T start pc pos hd om [] wt (some b) none sn).step = St T start pc pos hd om [] wt (some b) (some (if b then .matched else .failed)) sn := by
  rw [step_end rfl rfl rfl]
  rfl
end

theorem stepN_succ' (k : Nat) (m m' : M) (h : m.step = m') : stepN (k + 1) m = stepN k m' := by
  show stepN k m.step = _
  rw [h]

/-- the greedy run of digits gives back in vain -/
theorem back_no {T : Array Nat} {start : Nat} {om : Bool} {fr : List Sre.Frame} {wt : Nat} (hw : wt + 1 ≤ 16777216) (nl : ∀ i, T.getD i 0 ≠ 10) : ∀ (c p : Nat) (hd : Nat) (sn : Seen), p < T.size → 1 ≤ c →
    ∃ k pos' hd' sn', k ≤ 2 * c ∧ stepN k (St T start 21 p hd om (gb p om c :: fr) (wt + 1) none none sn) = St T start 11 pos' hd' om fr wt (some false) none sn' := by
  intro c
  induction c with
  | zero => intro p hd sn hp h; omega
  | succ c ih =>
    intro p hd sn hp _
    obtain ⟨sn1, e1⟩ := st_at_no (start := start) (hd := hd) (om := om) (fr := gb p om ((c + 1 : Nat) : Int) :: fr) (wt := wt + 1) (sn := sn) hp (nl p)
    have e2 := st_gb_no (T := T) (start := start) (pc := 21) (pos := p) (hd := hd) (om := om) (fr := fr) (sn := sn1) (p := p) (o := om) (c := ((c + 1 : Nat) : Int)) hw
    by_cases h1 : c = 0
    · subst h1
      rw [if_pos (by omega)] at e2
      refine ⟨2, p, hd, sn1, by omega, ?_⟩
      rw [stepN_succ' _ _ _ e1, stepN_succ' _ _ _ e2]
      rfl
    · rw [if_neg (by omega)] at e2
      obtain ⟨k, pos', hd', sn', hk, e3⟩ := ih (p - 1) (p - 1) sn1 (by omega) (by omega)
      refine ⟨k + 2, pos', hd', sn', by omega, ?_⟩
      rw [stepN_succ' _ _ _ e1, stepN_succ' _ _ _ e2, show ((c + 1 : Nat) : Int) - 1 = (c : Int) by omega]
      exact e3

noncomputable def good (T : Array Nat) (s : Nat) : Bool :=
  decide (s < T.size) && T.getD s 0 == 46 && decide (0 < digs T (T.size - (s + 1)) (s + 1)) && decide (s + 1 + digs T (T.size - (s + 1)) (s + 1) = T.size)

theorem digs_le (T : Array Nat) (n : Nat) : ∀ p, digs T n p ≤ n := by
  induction n with
  | zero => intro p; exact Nat.le_refl _
  | succ n ih =>
    intro p
    unfold digs
    split
    · have := ih (p + 1); omega
    · omega

/-- one start: the attempt ends, and says what good says -/
theorem at_start {T : Array Nat} {s : Nat} {om : Bool} {fr : List Sre.Frame} {wt : Nat} (hw : wt + 1 ≤ 16777216) (hT : T.size < 4294967295) (nl : ∀ i, T.getD i 0 ≠ 10) (sn : Seen) :
    ∃ k pc' pos' hd' sn', k ≤ 2 * T.size + 5 ∧ stepN k (St T s 9 s s om fr wt none none sn) = St T s pc' pos' hd' om fr wt (some (good T s)) none sn' := by
  by_cases h1 : s < T.size
  · obtain ⟨sn1, e1⟩ := st_lit (start := s) (hd := s) (om := om) (fr := fr) (wt := wt) (sn := sn) h1
    by_cases h2 : (T.getD s 0 == 46) = true
    · rw [if_pos h2] at e1
      by_cases h3 : s + 1 < T.size
      · obtain ⟨sn2, e2⟩ := st_rep (start := s) (hd := s) (om := om) (fr := fr) (wt := wt) (sn := sn1) h3 hT hw
        by_cases h4 : digs T (T.size - (s + 1)) (s + 1) = 0
        · rw [if_pos h4] at e2
          refine ⟨2, 11, s + 1, s, sn2, by omega, ?_⟩
          rw [stepN_succ' _ _ _ e1, stepN_succ' _ _ _ e2]
          have : good T s = false := by simp [good, h4]
          rw [this]; rfl
        · rw [if_neg h4] at e2
          have hle := digs_le T (T.size - (s + 1)) (s + 1)
          by_cases h5 : s + 1 + digs T (T.size - (s + 1)) (s + 1) = T.size
          · have hg : good T s = true := by
              simp only [good, Bool.and_eq_true, decide_eq_true_eq]
              exact ⟨⟨⟨h1, h2⟩, by omega⟩, h5⟩
            obtain ⟨sn3, e3⟩ := st_at_yes (start := s) (pos := s + 1 + digs T (T.size - (s + 1)) (s + 1)) (hd := s + 1 + digs T (T.size - (s + 1)) (s + 1)) (om := om) (fr := gb (s + 1 + digs T (T.size - (s + 1)) (s + 1)) om (digs T (T.size - (s + 1)) (s + 1)) :: fr) (wt := wt + 1) (sn := sn2) h5
            obtain ⟨sn4, e4⟩ := st_succ (T := T) (start := s) (pos := s + 1 + digs T (T.size - (s + 1)) (s + 1)) (hd := s + 1 + digs T (T.size - (s + 1)) (s + 1)) (om := om) (fr := gb (s + 1 + digs T (T.size - (s + 1)) (s + 1)) om (digs T (T.size - (s + 1)) (s + 1)) :: fr) (wt := wt + 1) (sn := sn3)
            refine ⟨5, 11, s + 1 + digs T (T.size - (s + 1)) (s + 1), s + 1 + digs T (T.size - (s + 1)) (s + 1), sn4, by omega, ?_⟩
            rw [stepN_succ' _ _ _ e1, stepN_succ' _ _ _ e2, stepN_succ' _ _ _ e3, stepN_succ' _ _ _ e4, stepN_succ' _ _ _ st_gb_yes, hg]
            rfl
          · have hg : good T s = false := by simp [good, h5]
            obtain ⟨k, pos', hd', sn', hk, e3⟩ := back_no (start := s) (om := om) (fr := fr) hw nl (digs T (T.size - (s + 1)) (s + 1)) (s + 1 + digs T (T.size - (s + 1)) (s + 1)) (s + 1 + digs T (T.size - (s + 1)) (s + 1)) sn2 (by omega) (by omega)
            refine ⟨k + 2, 11, pos', hd', sn', by omega, ?_⟩
            rw [stepN_succ' _ _ _ e1, stepN_succ' _ _ _ e2, hg]
            exact e3
      · obtain ⟨sn2, e2⟩ := st_rep_out (start := s) (hd := s) (om := om) (fr := fr) (wt := wt) (sn := sn1) (show T.size ≤ s + 1 by omega)
        refine ⟨2, 11, s + 1, s, sn2, by omega, ?_⟩
        rw [stepN_succ' _ _ _ e1, stepN_succ' _ _ _ e2]
        have : good T s = false := by
          have h0 : T.size - (s + 1) = 0 := by omega
          simp [good, h0, digs]
        rw [this]; rfl
    · rw [if_neg h2] at e1
      refine ⟨1, 9, s, s, sn1, by omega, ?_⟩
      rw [stepN_succ' _ _ _ e1]
      have : good T s = false := by
        have h2' : (T.getD s 0 == 46) = false := by simpa using h2
        simp only [good, h2', Bool.and_false, Bool.false_and]
      rw [this]; rfl
  · obtain ⟨sn1, e1⟩ := st_lit_out (start := s) (hd := s) (om := om) (fr := fr) (wt := wt) (sn := sn) (show T.size ≤ s by omega)
    refine ⟨1, 9, s, s, sn1, by omega, ?_⟩
    rw [stepN_succ' _ _ _ e1]
    have : good T s = false := by simp [good, h1]
    rw [this]; rfl

/-- some start from s on, of n, is good -/
noncomputable def hit (T : Array Nat) : (n s : Nat) → Bool
  | 0, _ => false
  | n + 1, s => good T s || hit T n (s + 1)

theorem from_start {T : Array Nat} (hT : T.size < 4294967295) (nl : ∀ i, T.getD i 0 ≠ 10) : ∀ (n s : Nat) (om : Bool) (sn : Seen), s + n = T.size + 1 → 1 ≤ n →
    ∃ k st' pc' pos' hd' om' sn', k ≤ n * (2 * T.size + 7) ∧ stepN k (St T s 9 s s om [nx 9 s om] 1 none none sn) = St T st' pc' pos' hd' om' [] 0 (some (hit T n s)) (some (if hit T n s then .matched else .failed)) sn' := by
  intro n
  induction n with
  | zero => intro s om sn _ h; omega
  | succ n ih =>
    intro s om sn hs _
    obtain ⟨k, pc', pos', hd', sn', hk, e⟩ := at_start (s := s) (om := om) (fr := [nx 9 s om]) (wt := 1) (by omega) hT nl sn
    cases hg : good T s with
    | true =>
      rw [hg] at e
      refine ⟨k + 2, s, 9, s, hd', om, sn', ?_, ?_⟩
      · rw [Nat.succ_mul]; omega
      · have hh : hit T (n + 1) s = true := by simp [hit, hg]
        rw [stepN_add, e, stepN_succ' _ _ _ st_nx_yes, stepN_succ' _ _ _ st_done, hh]
        rfl
    | false =>
      rw [hg] at e
      have hh : hit T (n + 1) s = hit T n (s + 1) := by simp [hit, hg]
      have e2 := st_nx_no (T := T) (start := s) (pc := pc') (pos := pos') (hd := hd') (om := om) (fr := []) (wt := 0) (sn := sn') (p := s) (o := om) (by omega)
      by_cases hn : n = 0
      · subst hn
        rw [if_neg (by omega)] at e2
        refine ⟨k + 2, s, 9, s, hd', om, sn', ?_, ?_⟩
        · rw [Nat.succ_mul]; omega
        · rw [stepN_add, e, stepN_succ' _ _ _ e2, stepN_succ' _ _ _ st_done, hh]
          rfl
      · rw [if_pos (by omega)] at e2
        obtain ⟨k2, st2, pc2, pos2, hd2, om2, sn2, hk2, e3⟩ := ih (s + 1) false sn' (by omega) (by omega)
        refine ⟨k + (k2 + 1), st2, pc2, pos2, hd2, om2, sn2, ?_, ?_⟩
        · rw [Nat.succ_mul]; omega
        · rw [stepN_add, e, stepN_succ' _ _ _ e2, e3, hh]
end Mine
end
section
open PySem PySem.W PyProof.Rows PySem.Spec PySem.Calls
set_option maxRecDepth 100000
namespace Mine
theorem plainAttrs_pat : PlainAttrs "re.Pattern" :=
  ⟨⟨"object.__getattribute__", by rw [typeLookup_type, builtinLookup_eq_fast]; kernel_rfl, by decide +kernel⟩, by rw [typeLookup_type, builtinLookup_eq_fast]; kernel_rfl⟩
theorem slot_pat_search : Slot "re.Pattern" "search" "re.Pattern.search" :=
  .of (owner := "re.Pattern") (n := "search") (by rw [typeLookup_type, builtinLookup_eq_fast]; kernel_rfl) (by decide +kernel) (by decide +kernel) (by decide +kernel)
    (by first | exact .inl (by decide +kernel) | exact .inr (by decide +kernel)) (by rw [isSubtype_type]; kernel_rfl)
theorem type_pat_search : typeOf (.builtin "re.Pattern.search") = pure (.type "method_descriptor") := by show builtinType _ = _; rw [builtinType_eq_fast]; kernel_rfl
theorem entry_pat_search : entryFor table "re.Pattern.search" = some Builtin.«re.Pattern.search» := entryFor_of_tree (by kernel_rfl)
theorem owner_pat : Manifest.owners.lookup (String.ofList (('n'::'r'::'e'::'t'::'t'::'a'::'P'::'.'::'e'::'r'::[]) : List Char).reverse) = some Manifest.sig_re_Pattern := by kernel_rfl
theorem args_pat_search (a b : Value) : argsOk "re.Pattern.search" ⟨[a, b], []⟩ := by
  unfold argsOk; rw [signature?_of (id := "re.Pattern.search") (n := ['h', 'c', 'r', 'a', 'e', 's']) (o := ['n', 'r', 'e', 't', 't', 'a', 'P', '.', 'e', 'r']) (by kernel_rfl) owner_pat]; kernel_rfl
end Mine
end
section
open PySem PySem.W PyProof.Rows PySem.Spec PySem.Calls
set_option maxRecDepth 100000
namespace Mine
open PySem.Builtin.Re

theorem named_search (x : Str) (t : Tok) : reNamed "re.Pattern.search" "search" ["string", "pos", "endpos"] 1 [.str x t] [] = pure [some (.str x t), none, none] := by rfl

theorem search_small {T : Array Nat} (h : T.size < 2) (n s : Nat) : hit T n s = false := by
  induction n generalizing s with
  | zero => rfl
  | succ n ih =>
    have : good T s = false := by
      have h0 : T.size - (s + 1) = 0 := by omega
      simp [good, h0, digs]
    simp [hit, this, ih]

/-- the search on this pattern ends, and tells whether some start is good -/
theorem search_runs {T : Array Nat} (hT : T.size ≤ 1000) (nl : ∀ i, T.getD i 0 ≠ 10) :
    ∃ k, k ≤ 2 ^ 40 ∧ (stepN k (Sre.forSearch ipCode T 0 0 T.size false)).outcome = some (if hit T (T.size + 1) 0 then .matched else .failed) := by
  by_cases h2 : T.size < 2
  · refine ⟨1, by decide, ?_⟩
    rw [search_small h2]
    have e : Sre.forSearch ipCode T 0 0 T.size false = if (decide ((0 : Nat) > T.size) || decide (T.size - 0 < 2)) = true then ({ code := ipCode, text := T, lim := T.size, start := 0, pc := 9, pos := 0, handed := 0, marks := #[], answer := some false, seen := (({} : Sre.Seen).add 14) } : Sre.M) else St T 0 9 0 0 true [nx 9 0 true] 1 none none (({} : Sre.Seen).add 14) := by
      unfold Sre.forSearch
      dsimp only
      rfl
    rw [e, if_pos (by simp; omega)]
    rfl
  · obtain ⟨k, st', pc', pos', hd', om', sn', hk, e⟩ := from_start (T := T) (by omega) nl (T.size + 1) 0 true (({} : Sre.Seen).add 14) (by omega) (by omega)
    refine ⟨k, ?_, ?_⟩
    · have h1 : (T.size + 1) * (2 * T.size + 7) ≤ 1001 * 2007 := Nat.mul_le_mul (by omega) (by omega)
      omega
    · have e1 : Sre.forSearch ipCode T 0 0 T.size false = if (decide ((0 : Nat) > T.size) || decide (T.size - 0 < 2)) = true then ({ code := ipCode, text := T, lim := T.size, start := 0, pc := 9, pos := 0, handed := 0, marks := #[], answer := some false, seen := (({} : Sre.Seen).add 14) } : Sre.M) else St T 0 9 0 0 true [nx 9 0 true] 1 none none (({} : Sre.Seen).add 14) := by
        unfold Sre.forSearch
        dsimp only
        rfl
      rw [e1, if_neg (by simp; omega), e]
      rfl

section
variable {M : Model} {A : Around} {E : Value → Shared → Prop} {s : Shared}

theorem drive {Q : Sre.M → Shared → Prop} : ∀ (turns k : Nat) (m : Sre.M), k ≤ 4 * (turns + 1) → (stepN k m).outcome.isSome = true → Q (stepN k m) s → wpAny M A (reDrive (turns + 1) m) Q E s := by
  intro turns
  induction turns with
  | zero =>
    intro k m hk ho hq
    have e4 : stepN 4 m = stepN k m := by
      rw [show 4 = k + (4 - k) by omega, stepN_add, stepN_done ho]
    show wpAny M A (if (m.runFor 4).outcome.isSome = true then pure (m.runFor 4) else _) Q E s
    rw [runFor_eq, e4, if_pos ho]
    exact wpAny_pure hq
  | succ n ih =>
    intro k m hk ho hq
    show wpAny M A (if (m.runFor 4).outcome.isSome = true then pure (m.runFor 4) else (do rule "sre.turn"; reDrive (n + 1) (m.runFor 4))) Q E s
    rw [runFor_eq]
    by_cases h4 : (stepN 4 m).outcome.isSome = true
    · rw [if_pos h4]
      have e4 : stepN 4 m = stepN k m := by
        by_cases hk4 : k ≤ 4
        · rw [show 4 = k + (4 - k) by omega, stepN_add, stepN_done ho]
        · rw [show k = 4 + (k - 4) by omega, stepN_add, stepN_done h4]
      rw [e4]
      exact wpAny_pure hq
    · rw [if_neg h4]
      refine wpAny_bind (wpAny_rule ?_)
      have hk4 : 4 < k := by
        apply Nat.lt_of_not_le
        intro hle
        apply h4
        rw [show 4 = k + (4 - k) by omega, stepN_add, stepN_done ho]
        exact ho
      have e : stepN k m = stepN (k - 4) (stepN 4 m) := by rw [← stepN_add]; congr 1; omega
      rw [e] at ho hq
      exact ih (k - 4) _ (by omega) ho hq

theorem say_rules {m : Sre.M} {Q : PUnit → Shared → Prop} (h : Q ⟨⟩ s) : ∀ l : List Nat,
    wpAny M A (forIn l PUnit.unit fun i (_ : PUnit) => (do
      if m.seen.has i then rule (Sre.names.getD i "")
      pure (ForInStep.yield PUnit.unit) : Sem (ForInStep PUnit))) Q E s := by
  intro l
  induction l with
  | nil => exact wpAny_pure h
  | cons i r ih =>
    rw [List.forIn_cons]
    refine wpAny_bind ?_
    by_cases hc : m.seen.has i = true
    · simp only [hc, if_true]
      refine wpAny_bind (wpAny_rule ?_)
      exact wpAny_pure ih
    · rw [if_neg hc]
      exact wpAny_pure ih

theorem run_to_end {m : Sre.M} {k : Nat} {b : Bool} {Q : Option Sre.M → Shared → Prop} (hk : k ≤ 2 ^ 40) (ho : (stepN k m).outcome = some (if b then .matched else .failed))
    (h : Q (if b then some (stepN k m) else none) s) : wpAny M A (reRunToEnd m) Q E s := by
  unfold reRunToEnd
  refine wpAny_bind (drive (2 ^ 64 - 1) k m (by omega) (by rw [ho]; rfl) ?_)
  refine wpAny_bind (say_rules ?_ _)
  rw [ho]
  cases b <;> exact wpAny_pure h
end
end Mine
end
section
open PySem PySem.W PyProof.Rows PySem.Spec PySem.Calls
set_option maxRecDepth 100000
namespace Mine
open PySem.Builtin.Re

noncomputable def patObj : Obj := { cls := .type "re.Pattern", dict := none, data := .fields #[.str (Str.mk #[92, 46, 92, 100, 43, 36]) 301, .int 256 328, .int 0 0, .none, .none, .ref 49, .int 0 0], slots := #[] }
noncomputable def patCode : List Value := [14, 8, 1, 2, 4294967295, 1, 1, 46, 0, 16, 46, 24, 9, 1, 4294967295, 13, 4, 8, 0, 0, 1, 6, 5, 1].map fun n => .int n 0
noncomputable def codeObj : Obj := { cls := .type "tuple", dict := none, data := .seq patCode.toArray 0, slots := #[] }
theorem pat_at (w : World) : (hd.heap_1 w.params).lookup 50 = some patObj := by kernel_rfl
theorem code_at (w : World) : (hd.heap_1 w.params).lookup 49 = some codeObj := by kernel_rfl

noncomputable def IsM (o : Obj) : Prop := o.cls = .type "re.Match" ∧ o.dict = none ∧ (∃ vs, o.data = .fields vs)

theorem target_search {M : Model} {A : Around} {E : Value → Shared → Prop} {s : Shared} {x : Str} {t : Tok} {Q : ReTarget → Shared → Prop} (h1 : s.heap.get? 50 = some patObj) (h2 : s.heap.get? 49 = some codeObj)
    (hx : x.cps.size ≤ 1000)
    (h : Q { pattern := .ref 50, string := .str x t, code := ipCode, text := x.cps, kind := 0, groups := 0, pos := 0, lim := x.cps.size } s) :
    wpAny M A (reTarget "re.Pattern.search" "search" ⟨[.ref 50, .str x t], []⟩) Q E s := by
  unfold reTarget
  dsimp only
  rw [named_search]
  refine wpAny_bind (wpAny_pure ?_)
  dsimp only
  refine wpAny_bind (wpAny_pure ?_)
  refine wpAny_bind (wpAny_pure ?_)
  refine wpAny_bind (wpAny_fieldsOf h1 rfl ?_)
  refine wpAny_bind (wpAny_pure (a := (x.cps, 0)) ?_)
  rw [if_neg (by exact Bool.false_ne_true), if_neg (by exact Bool.false_ne_true)]
  refine wpAny_bind (wpAny_pure (a := ()) ?_)
  refine wpAny_bind ?_
  show wpAny M A (reRawItems (.ref 49)) _ E s
  unfold reRawItems
  refine wpAny_bind (wpAny_bind (wpAny_load h2 (wpAny_pure ?_)))
  refine wpAny_pure (wpAny_pure ?_)
  have e1 : min (Int.toNat 0) x.cps.size = 0 := by simp
  have e2 : min ((2 : Int) ^ 63 - 1).toNat x.cps.size = x.cps.size := by
    have : ((2 : Int) ^ 63 - 1).toNat = 9223372036854775807 := by decide
    omega
  show Q { pattern := .ref 50, string := .str x t, code := Array.map (fun x => x.toNat) (Array.map reRawOf patCode.toArray), text := x.cps, kind := 0, groups := 0, pos := min (Int.toNat 0) x.cps.size, lim := min ((2 : Int) ^ 63 - 1).toNat x.cps.size } s
  have e3 : Array.map (fun x => x.toNat) (Array.map reRawOf patCode.toArray) = ipCode := by decide +kernel
  rw [e1, e2, e3]
  exact h

theorem answer_search {M : Model} {A : Around} {E : Value → Shared → Prop} {s : Shared} {x : Str} {t : Tok} {Q : Fin → Shared → Prop} (hx : x.cps.size ≤ 1000) (nl : ∀ i, x.cps.getD i 0 ≠ 10)
    (hno : hit x.cps (x.cps.size + 1) 0 = false → Q (.done (.ret .none)) s)
    (hyes : hit x.cps (x.cps.size + 1) 0 = true → ∀ o1 o2 : Obj, o1.isFreed = false → IsM o2 → Q (.done (.ret (.ref (s.heap.objs.size + 1)))) { s with heap := (s.heap.push o1).push o2 }) :
    wpAny M A (reAnswer { pattern := .ref 50, string := .str x t, code := ipCode, text := x.cps, kind := 0, groups := 0, pos := 0, lim := x.cps.size } (Sre.forSearch ipCode x.cps 0 0 x.cps.size false)) Q E s := by
  obtain ⟨k, hk, ho⟩ := search_runs hx nl
  unfold reAnswer
  refine wpAny_bind (run_to_end hk ho ?_)
  cases hh : hit x.cps (x.cps.size + 1) 0 with
  | false => exact wpAny_pure (hno hh)
  | true =>
    dsimp only [if_true]
    refine wpAny_bind ?_
    unfold reNewMatch
    rw [if_neg (by simp)]
    refine wpAny_bind ?_
    unfold newTuple
    refine wpAny_newObj_type ?_ ?_
    · unfold newFields
      refine wpAny_newObj_type ?_ ?_
      · refine wpAny_pure ?_
        have := hyes hh
        rw [show (s.heap.push _).objs.size = s.heap.objs.size + 1 from Heap.size_push _ _]
        exact this _ _ rfl ⟨rfl, rfl, _, rfl⟩
      · simp [sizeOk, sizeLine]
    · simp [sizeOk, sizeLine]

theorem call_search {prog : Program} {w : World} {A : Around} {E : Value → Shared → Prop} {s : Shared} {x : Str} {t : Tok} {Q : Value → Shared → Prop} (X : (hd.heap_1 w.params).In s.heap) (hx : x.cps.size ≤ 1000) (nl : ∀ i, x.cps.getD i 0 ≠ 10)
    (hno : hit x.cps (x.cps.size + 1) 0 = false → Q .none s)
    (hyes : hit x.cps (x.cps.size + 1) 0 = true → ∀ o1 o2 : Obj, o1.isFreed = false → IsM o2 → Q (.ref (s.heap.objs.size + 1)) { s with heap := (s.heap.push o1).push o2 }) :
    wpAny (model prog w) A (call (.builtin "re.Pattern.search") [.ref 50, .str x t]) Q E s := by
  have h1 := X _ _ (pat_at w)
  have h2 := X _ _ (code_at w)
  refine wpAny_call_entry slot_pat_search ⟨patObj, h1, rfl⟩ entry_pat_search ?_ (args_pat_search _ _)
  unfold Builtin.«re.Pattern.search»
  refine wpAny_bind (target_search h1 h2 hx ?_)
  exact answer_search hx nl (fun e => ⟨_, rfl, hno e⟩) (fun e o1 o2 f1 m2 => ⟨_, rfl, hyes e o1 o2 f1 m2⟩)

theorem method_search {prog : Program} {w : World} {A : Around} {E : Value → Shared → Prop} {s : Shared} {pl : Sem Bool} {Q : Value × List Value → Shared → Prop} (X : (hd.heap_1 w.params).In s.heap)
    (h : Q (.builtin "re.Pattern.search", [.ref 50]) s) : wpAny (model prog w) A (getMethod (.ref 50) (Str.ofString "search") pl) Q E s := by
  have h1 := X _ _ (pat_at w)
  exact getMethod_builtin ⟨patObj, h1, rfl⟩ plainAttrs_pat slot_pat_search type_pat_search (fun a e => by cases e; exact ⟨patObj, h1, rfl⟩) h
end Mine
end
section
open PySem PySem.W PyProof.Rows PySem.Spec PySem.Calls
set_option maxRecDepth 100000
namespace Mine
open PySem.Builtin.Re
noncomputable def twObj : Obj := { cls := .type "re.Pattern", dict := none, data := .fields #[.str (Str.mk #[40, 91, 38, 126, 124, 93, 41]) 349, .int 32 384, .int 1 0, .none, .none, .ref 68, .int 0 0], slots := #[] }
noncomputable def twNats : List Nat := [14, 14, 4, 1, 1, 9, 0, 64, 0, 1342177280, 0, 0, 0, 0, 0, 17, 0, 13, 11, 9, 0, 64, 0, 1342177280, 0, 0, 0, 0, 0, 17, 1, 1]
noncomputable def twCode : Array Nat := twNats.toArray
noncomputable def twList : List Value := twNats.map fun n => .int (Int.ofNat n) 0
noncomputable def twCodeObj : Obj := { cls := .type "tuple", dict := none, data := .seq twList.toArray 0, slots := #[] }
theorem tw_at (w : World) : (hd.heap_1 w.params).lookup 69 = some twObj := by kernel_rfl
theorem twCode_at (w : World) : (hd.heap_1 w.params).lookup 68 = some twCodeObj := by kernel_rfl
theorem slot_pat_sub : Slot "re.Pattern" "sub" "re.Pattern.sub" :=
  .of (owner := "re.Pattern") (n := "sub") (by rw [typeLookup_type, builtinLookup_eq_fast]; kernel_rfl) (by decide +kernel) (by decide +kernel) (by decide +kernel)
    (by first | exact .inl (by decide +kernel) | exact .inr (by decide +kernel)) (by rw [isSubtype_type]; kernel_rfl)
theorem type_pat_sub : typeOf (.builtin "re.Pattern.sub") = pure (.type "method_descriptor") := by show builtinType _ = _; rw [builtinType_eq_fast]; kernel_rfl
theorem entry_pat_sub : entryFor table "re.Pattern.sub" = some Builtin.«re.Pattern.sub» := entryFor_of_tree (by kernel_rfl)
theorem entry_pat_sub_loop : entryFor table "re.Pattern.sub.loop" = some Builtin.«re.Pattern.sub.loop» := entryFor_of_tree (by kernel_rfl)
theorem plain_sub_loop : plainId "re.Pattern.sub.loop" = true := by decide +kernel
theorem args_pat_sub (a b c : Value) : argsOk "re.Pattern.sub" ⟨[a, b, c], []⟩ := by
  unfold argsOk; rw [signature?_of (id := "re.Pattern.sub") (n := ['b', 'u', 's']) (o := ['n', 'r', 'e', 't', 't', 'a', 'P', '.', 'e', 'r']) (by kernel_rfl) owner_pat]; kernel_rfl
theorem fn_call : ∃ v, typeLookup (.type "function") "__call__" = pure (some v) := ⟨.builtin "function.__call__", by rw [typeLookup_type, builtinLookup_eq_fast]; kernel_rfl⟩
theorem str_not_ba : isSubtype (.type "str") (.type "bytearray") = pure false := by rw [isSubtype_type]; kernel_rfl
theorem named_sub (f : Addr) (x : Str) (t : Tok) : reNamed "re.Pattern.sub" "sub" ["repl", "string", "count"] 2 [.ref f, .str x t] [] = pure [some (.ref f), some (.str x t), none] := by rfl
section
variable {M : Model} {A : Around} {E : Value → Shared → Prop} {s : Shared}
theorem whole_tw {x : Str} {t : Tok} {Q : ReTarget → Shared → Prop} (h1 : s.heap.get? 69 = some twObj) (h2 : s.heap.get? 68 = some twCodeObj)
    (h : Q { pattern := .ref 69, string := .str x t, code := twCode, text := x.cps, kind := 0, groups := 1, pos := 0, lim := x.cps.size } s) :
    wpAny M A (reWholeTarget (.ref 69) (.str x t)) Q E s := by
  unfold reWholeTarget
  refine wpAny_bind (wpAny_fieldsOf h1 rfl ?_)
  refine wpAny_bind (wpAny_pure (a := (x.cps, 0)) ?_)
  dsimp only
  rw [if_neg (by exact Bool.false_ne_true), if_neg (by exact Bool.false_ne_true)]
  refine wpAny_bind (wpAny_pure (a := ()) ?_)
  refine wpAny_bind ?_
  show wpAny M A (reRawItems (.ref 68)) _ E s
  unfold reRawItems
  refine wpAny_bind (wpAny_bind (wpAny_load h2 (wpAny_pure ?_)))
  refine wpAny_pure (wpAny_pure ?_)
  show Q { pattern := .ref 69, string := .str x t, code := Array.map (fun x => x.toNat) (Array.map reRawOf twList.toArray), text := x.cps, kind := 0, groups := 1, pos := 0, lim := x.cps.size } s
  have e3 : Array.map (fun x => x.toNat) (Array.map reRawOf twList.toArray) = twCode := by decide +kernel
  rw [e3]
  exact h
end
/-- the search finds nothing in x: k turns of the engine -/
noncomputable def NoHit (x : Str) (k : Nat) : Prop := (stepN k (Sre.forSearch twCode x.cps 1 0 x.cps.size false)).outcome = some .failed
set_option maxHeartbeats 1000000 in
theorem call_sub {prog : Program} {w : World} {A : Around} {E : Value → Shared → Prop} {s : Shared} {x : Str} {t : Tok} {f : Addr} {o : Obj} {Q : Value → Shared → Prop} (X : (hd.heap_1 w.params).In s.heap)
    (hf : s.heap.get? f = some o) (ho : o.cls = .type "function") {k : Nat} (hk : k ≤ 2 ^ 40) (hno : NoHit x k) (hx : x.cps.size ≠ 0) (hxl : x.length ≤ 1000) (hjoin : Txt.join ⟨#[]⟩ [x] = x) (hjok : JoinOk ⟨#[]⟩ [x] = true)
    (h : ∀ h' tk t', (∀ b o, s.heap.get? b = some o → h'.get? b = some o) → s.heap.objs.size ≤ h'.objs.size → Q (.str x t') { s with heap := h', toks := tk }) :
    wpAny (model prog w) A (call (.builtin "re.Pattern.sub") [.ref 69, .ref f, .str x t]) Q E s := by
  have h1 := X _ _ (tw_at w)
  have h2 := X _ _ (twCode_at w)
  obtain ⟨cv, hcv⟩ := fn_call
  have hT : s.TypeIs (.ref f) "function" := ⟨o, hf, ho⟩
  have hTs : ∀ s' : Shared, s'.TypeIs (.str x t) "str" := fun s' => typeIs_str s' x t
  refine wpAny_call (codeAny_call_builtin slot_pat_sub.plain entry_pat_sub (slot_pat_sub.check _ _ _ _ _ _ _ _ ⟨twObj, h1, rfl⟩ (args_pat_sub _ _ _) ?_))
  show wpAny _ _ (reSubstitute "re.Pattern.sub" "sub" false ⟨[.ref 69, .ref f, .str x t], []⟩) _ _ _
  unfold reSubstitute
  dsimp only
  rw [named_sub]
  refine wpAny_bind (wpAny_pure ?_)
  dsimp only
  refine wpAny_bind (wpAny_pure ?_)
  refine wpAny_bind (wpAny_specialOf hT hcv ?_)
  dsimp only [Option.isSome]
  refine wpAny_bind (wpAny_pure ?_)
  refine wpAny_bind (wpAny_pure ?_)
  refine wpAny_bind (wpAny_holding (whole_tw h1 h2 ?_))
  dsimp only
  rw [if_pos (by decide)]
  refine wpAny_bind ?_
  · unfold reNotHeld
    refine wpAny_bind (wpAny_isInstance (hTs _) str_not_ba ?_)
    rw [if_neg (by decide)]
    refine wpAny_pure ?_
    refine wpAny_bind (wpAny_newList ?_)
    refine wpAny_pure ⟨plainId_quiet plain_sub_loop _, codeAny_builtin entry_pat_sub_loop ?_⟩
    rw [Around.under_plainId plain_sub_loop _]
    unfold Builtin.«re.Pattern.sub.loop»
    dsimp only [rawInt]
    refine wpAny_bind (whole_tw (Heap.get?_push_of_some _ h1) (Heap.get?_push_of_some _ h2) ?_)
    rw [if_neg (by decide)]
    dsimp only
    rw [if_neg (by decide)]
    refine wpAny_bind ?_
    unfold reNextFound
    refine run_to_end (b := false) hk hno ?_
    dsimp only
    rw [if_neg (by decide)]
    rw [if_pos (by show 0 < x.cps.size; omega)]
    refine wpAny_bind ?_
    have ex : (⟨x.cps.extract 0 x.cps.size⟩ : Str) = x := by simp
    show wpAny _ _ (mkStr ⟨x.cps.extract 0 x.cps.size⟩) _ _ _
    rw [ex]
    refine wpAny_mkStr ?_ (by rw [sizeLine_eq]; omega)
    refine wpAny_bind ?_
    have hp : (s.heap.push { cls := .type "list", data := .seq #[] }).get? s.heap.objs.size = some { cls := .type "list", data := .seq #[] } := Heap.get?_push_size _ rfl
    refine wpAny_updateSeq hp rfl ?_
    have hp2 := Heap.get?_update_self (h := s.heap.push { cls := .type "list", data := .seq #[] }) (fun o => Obj.mapSeq (·.push (.str x s.toks)) o) hp rfl
    have e0 : (⟨x.cps.extract 0 0⟩ : Str) = ⟨#[]⟩ := by simp
    show wpAny _ _ (mkStr ⟨x.cps.extract 0 0⟩ >>= _) _ _ _
    rw [e0]
    refine wpAny_bind (wpAny_mkStr ?_ (by decide))
    refine wpAny_bind (wpAny_seqItems hp2 rfl ?_)
    dsimp only [Option.getD]
    rw [if_neg (by simp)]
    refine wpAny_bind ?_
    refine SC.join (l := [(x, s.toks)]) ⟨_, hp2, rfl, _, rfl⟩ rfl hjok ?_
    intro t' k'
    rw [if_neg (by decide)]
    refine wpAny_pure ?_
    have hj2 : Txt.join ⟨#[]⟩ (List.map (fun x => x.fst) [(x, s.toks)]) = x := hjoin
    rw [hj2]
    refine h _ _ t' (fun b o e => ?_) ?_
    · rw [Heap.get?_update_other _ _ (fun q => by subst q; exact Nat.lt_irrefl _ (Heap.lt_size e))]
      exact Heap.get?_push_of_some _ e
    · rw [Heap.size_after_update, Heap.size_push]; exact Nat.le_succ _
end Mine
end
section
open PySem PySem.W PyProof.Rows PySem.Spec PySem.Calls
set_option maxRecDepth 100000
namespace Mine
open PyProof.Rows.LCt PyProof.Rows.LCg

/-- a goal that the walk is to leave as it stands -/
noncomputable def Hold (P : Prop) : Prop := P
theorem Hold.out {P : Prop} (h : Hold P) : P := h
theorem Hold.mk {P : Prop} (h : P) : Hold P := h
/-- a test's end: its answer, and that all stands as it stood -/
noncomputable def TestEnd (h₀ : Heap) (L : Addr) (m : Str → Option Value) (s₁ : Shared) (led : List (Addr × Obj)) (b : Bool) (ok : Bool) (s' : Shared) : Prop :=
  ok = b ∧ ∃ h' tk', s' = { s₁ with heap := h', toks := tk' } ∧ Fr h₀ L h' m ∧ News h₀ L h' led
theorem TestEnd.intro {h₀ : Heap} {L : Addr} {m : Str → Option Value} {s₁ : Shared} {led all : List (Addr × Obj)} {b ok : Bool} {h' : Heap} {tk' : Nat} (e : ok = b) (F : Fr h₀ L h' m) (N : News h₀ L h' all) (sub : ∀ p ∈ led, p ∈ all) :
    TestEnd h₀ L m s₁ led b ok { s₁ with heap := h', toks := tk' } := ⟨e, h', tk', rfl, F, fun p hp => N p (sub p hp)⟩

theorem rest_all {prog : Program} {w : World} {A : Around} {h₀ : Heap} {L : Addr} {m : Str → Option Value} {env : Env} {ct : Expr} {x : Str} {px : Pos} {scope : Scope} {cl : List (Str × Addr)} {s : Shared} {S : List (Addr × Obj) → Prop} {P : Nat → Value → Prop}
    {Fin : List Value → List (Addr × Obj) → Prop} {n : Nat} {news : List (Addr × Obj)} (pz : Nat → Bool) (hS : S news) (hkind : scope.kind = .function) (hx : scope.names.lookup x = some .local) (hdb : (x == ("__debug__" : Str)) = false)
    (turn : ∀ i, i < n → ∀ (ys : List Value) (v : Value) (I : Addr) (oI : Obj) (C : Addr) (oC : Obj) (D : Addr) (m₂ : Str → Option Value) (h : Heap) (tk : Nat) (E' : Value → Shared → Prop), P i v → NsObj oC m₂ → m₂ x = some v → Fr h₀ L h m →
      News h₀ L h ((I, oI) :: (C, oC) :: (D, lst ys) :: news) →
      wpAny (model prog w) A (isTrue ct (compEnvC scope cl C env) (eval ct (compEnvC scope cl C env))) (TestEnd h₀ L m { s with heap := h, toks := tk } ((I, oI) :: (C, oC) :: (D, lst ys) :: news) (pz i)) E' { s with heap := h, toks := tk })
    (fin : ∀ ys, (ys = [] ↔ ∀ j, j < n → pz j = false) → Fin ys news) :
    CompRestT prog w A h₀ L m env ct (.Name x px) x scope cl s S P Fin n 0 [] news := by
  have all : ∀ k i ys, i + k = n → (ys = [] ↔ ∀ j, j < i → pz j = false) → CompRestT prog w A h₀ L m env ct (.Name x px) x scope cl s S P Fin k i ys news := by
    intro k
    induction k with
    | zero =>
      intro i ys hi hy
      have : i = n := by omega
      subst this
      exact fin ys hy
    | succ k ih =>
      intro i ys hi hy
      intro v I oI C oC D m₂ h tk E' hP hC hv F N off ne
      refine wpAny_mono (turn i (by omega) ys v I oI C oC D m₂ h tk E' hP hC hv F N) (fun ok s' he => ?_) fun _ _ e => e
      obtain ⟨rfl, h', tk', rfl, F2, N2⟩ := he
      cases hb : pz i with
      | true =>
        rw [if_pos rfl]
        have hn : h'.Ns C m₂ := hC.ns (N2.get (List.mem_cons_of_mem _ List.mem_cons_self))
        refine wpAny_Name (wpAny_loadName_local (by simp [compEnvC, relabel, hkind]) (lookup_relabel_local hx) hn hv ?_) hdb
        refine CompEnd.intro F2 N2 news (fun _ hp => hp) off hS (ih (i + 1) (ys ++ [v]) (by omega) ⟨fun e => by simp at e, fun e => ?_⟩)
        have := e i (Nat.lt_succ_self i)
        rw [hb] at this; cases this
      | false =>
        rw [if_neg Bool.false_ne_true]
        refine CompEnd.intro F2 N2 news (fun _ hp => hp) off hS (ih (i + 1) ys (by omega) ⟨fun e j hj => ?_, fun e => hy.mpr fun j hj => e j (Nat.lt_succ_of_lt hj)⟩)
        rcases Nat.lt_succ_iff_lt_or_eq.mp hj with h1 | h1
        · exact hy.mp e j h1
        · rw [h1]; exact hb
  exact all n 0 [] (by omega) ⟨fun _ j hj => absurd hj (Nat.not_lt_zero _), fun _ => rfl⟩
end Mine
end
section
open PySem PySem.W PyProof.Rows PySem.Spec PySem.Calls
set_option maxRecDepth 100000
namespace Mine
noncomputable abbrev lstN (vs : List Value) (n : Nat) : Obj := { cls := .type "list", data := .seq vs.toArray n }
theorem range_len (n : Nat) : Builtin.Range.rangeSize 0 (n : Int) 1 = ((n : Nat) : Int) := by rw [rangeSize_one]; split <;> omega
section
variable {prog : Program} {w : World} {A : Around} {E : Value → Shared → Prop} {s : Shared} {h₀ : Heap} {L a : Addr} {news : List (Addr × Obj)} {vs : List Value} {n : Nat} {Q : Value → Shared → Prop}
theorem len_mem (N : News h₀ L s.heap news) (hm : (a, lstN vs n) ∈ news)
    (hle : vs.length ≤ 1000) (h : Q (.int vs.length (s.toks + 1)) { s with toks := s.toks + 1 + 1 }) : wpAny (model prog w) A (call (.builtin "len") [.ref a]) Q E s :=
  call_len_list (items := vs.toArray) ⟨_, N.get hm, rfl, _, rfl⟩ (by rw [List.size_toArray]; omega) (by rw [List.size_toArray]; exact h)
theorem item_mem {value slice : Expr} {k : Int} {u : Tok} {v : Value} (N : News h₀ L s.heap news) (hm : (a, lstN vs n) ∈ news) (h0 : 0 ≤ k) (hhi : k < 2 ^ 63) (hx : vs[k.toNat]? = some v) (h : Q v s)
    (hs : subscripted slice false (.ref a) (.int k u) = operate [.ref a, .int k u] (getItem (.ref a) (.int k u)) := by with_unfolding_all rfl) :
    wpAny (model prog w) A (subscriptTail value slice (.ref a) (.int k u)) Q E s :=
  have hl : s.heap.IsList a vs.toArray := ⟨_, N.get hm, rfl, _, rfl⟩
  tail_any hl.typeIs slot_list_getitem.lookup (wpAny_getItem_list hl h0 hhi (by simpa using hx) h) hs
noncomputable def strOf : Value → Str
  | .str x _ => x
  | _ => ""
theorem any_strs {z : Str} : ∀ {vs : List Value} {ss : List Str}, StrsAre vs ss → (vs.any fun y => strOf y == z) = ss.contains z
  | _, _, .nil => rfl
  | _, _, .cons x t h => by
    rw [List.any_cons, any_strs h, List.contains_cons]
    show ((x == z) || _) = ((z == x) || _)
    rw [Bool.beq_comm]
theorem eq_strs {A : Around} {z : Str} {t : Tok} {s : Shared} : ∀ {vs : List Value} {ss : List Str}, StrsAre vs ss → ∀ y ∈ vs, SeqAt.EqAt A s y (.str z t) (strOf y == z)
  | _, _, .nil => fun _ h => nomatch h
  | _, _, .cons x t' h => fun y hy => by
    rcases List.mem_cons.mp hy with rfl | hy
    · exact SeqAt.EqAt.str_str x t' z t
    · exact eq_strs h y hy
theorem in_strs {z : Str} {t : Tok} {ss : List Str} (N : News h₀ L s.heap news) (hm : (a, lstN vs n) ∈ news) (hv : StrsAre vs ss) (h : Q (.bool (ss.contains z)) s) : wpAny (model prog w) A (compareOp .In (.str z t) (.ref a)) Q E s := by
  have hl : s.heap.IsList a vs.toArray := ⟨_, N.get hm, rfl, _, rfl⟩
  refine SeqAt.in_listAt (fun y => strOf y == z) hl (fun y hy => eq_strs hv y (by simpa using hy)) ?_
  rw [List.any_toArray, any_strs hv]
  exact h
theorem eq_nil {D D2 : Addr} {ys : List Value} {k k2 : Nat} (N : News h₀ L s.heap news) (hm : (D, lstN ys k) ∈ news) (hm2 : (D2, lstN [] k2) ∈ news) (hu : A.units < cLine) (h : Q (.bool ys.isEmpty) s) : wpAny (model prog w) A (compareOp .Eq (.ref D) (.ref D2)) Q E s := by
  have hl : s.heap.IsList D ys.toArray := ⟨_, N.get hm, rfl, _, rfl⟩
  have hb : s.heap.IsList D2 #[] := ⟨_, N.get hm2, rfl, _, rfl⟩
  cases ys with
  | nil => exact SeqAt.eq_listAt (e := fun _ => true) hl hb rfl hu (fun j h1 _ => absurd h1 (Nat.not_lt_zero _)) h
  | cons y r => exact SeqAt.eq_list_lengthsAt hl hb (by simp) hu h
theorem ne_nil {D D2 : Addr} {ys : List Value} {k k2 : Nat} (N : News h₀ L s.heap news) (hm : (D, lstN ys k) ∈ news) (hm2 : (D2, lstN [] k2) ∈ news) (hu : A.units < cLine) (h : Q (.bool (!ys.isEmpty)) s) : wpAny (model prog w) A (compareOp .NotEq (.ref D) (.ref D2)) Q E s := by
  have hl : s.heap.IsList D ys.toArray := ⟨_, N.get hm, rfl, _, rfl⟩
  have hb : s.heap.IsList D2 #[] := ⟨_, N.get hm2, rfl, _, rfl⟩
  cases ys with
  | nil => exact SeqAt.RcNeAt.lists (e := fun _ => true) hl hb rfl hu (fun j h1 _ => absurd h1 (Nat.not_lt_zero _)) prog w E Q h
  | cons y r => exact SeqAt.RcNeAt.lists_lengths hl hb (by simp) hu prog w E Q h
end
end Mine
end
section
open PySem PySem.W PyProof.Rows PySem.Spec PySem.Calls
set_option maxRecDepth 100000
namespace Mine
section
variable {prog : Program} {w : World} {A : Around} {E : Value → Shared → Prop} {s : Shared} {h₀ : Heap} {L : Addr} {m : Str → Option Value} {news : List (Addr × Obj)} {x y : Str} {t : Tok} {value slice : Expr} {Q : Value → Shared → Prop}
theorem itemE {i : Int} {u : Tok} (e : Txt.item x i = y) (hr : fitsSsize i = true) (h1 : -(x.length : Int) ≤ i) (h2 : i < x.length)
    (h : Q (.str y s.toks) { s with toks := s.toks + 1 })
    (hs : subscripted slice false (.str x t) (.int i u) = operate [.str x t, .int i u] (getItem (.str x t) (.int i u)) := by with_unfolding_all rfl)
    (ht : ∀ r, letTemporaryGo value (.str x t) r = pure () := by intro _; with_unfolding_all rfl) :
    wpAny (model prog w) A (subscriptTail value slice (.str x t) (.int i u)) Q E s := item_str hr h1 h2 (fun _ => by rw [e]; exact h) hs ht
theorem itemM {h : Heap} {g d o} {k : Nat} {i : Int} {u : Tok} (e : Txt.item x i = y) (hr : fitsSsize i = true) (h1 : -(x.length : Int) ≤ i) (h2 : i < x.length)
    (H : Q (.str y k) ⟨h, g, d, k + 1, o⟩)
    (hs : subscripted slice false (.str x t) (.int i u) = operate [.str x t, .int i u] (getItem (.str x t) (.int i u)) := by with_unfolding_all rfl)
    (ht : ∀ r, letTemporaryGo value (.str x t) r = pure () := by intro _; with_unfolding_all rfl) :
    wpAny (model prog w) A (subscriptTail value slice (.str x t) (.int i u)) Q E ⟨h, g, d, k, o⟩ := itemE e hr h1 h2 H hs ht
theorem sliceE_ns {j : Int} {uj : Tok} (e : Txt.slice x none (some j) = y) (hF : Fr h₀ L s.heap m) (hN : News h₀ L s.heap news) (hsz : x.length ≤ sizeLine) (h : ∀ h' t' k, Fr h₀ L h' m → News h₀ L h' news → Q (.str y t') { s with heap := h', toks := k })
    (hs : subscripted slice false (.str x t) (.ref s.heap.objs.size) = operate [.ref s.heap.objs.size, .str x t] (getItem (.str x t) (.ref s.heap.objs.size)) := by with_unfolding_all rfl)
    (ht : ∀ r, letTemporaryGo value (.str x t) r = pure () := by intro _; with_unfolding_all rfl) :
    wpAny (model prog w) A (subscriptTail value slice (.str x t) (.ref s.heap.objs.size)) Q E { s with heap := s.heap.push { cls := .type "slice", data := .fields #[.none, .int j uj, .none] } } :=
  slice_strN_ns hF hN (fun h' t' k a b => by rw [e]; exact h h' t' k a b) hs ht hsz
theorem sliceE_sn {j : Int} {uj : Tok} (e : Txt.slice x (some j) none = y) (hF : Fr h₀ L s.heap m) (hN : News h₀ L s.heap news) (hsz : x.length ≤ sizeLine) (h : ∀ h' t' k, Fr h₀ L h' m → News h₀ L h' news → Q (.str y t') { s with heap := h', toks := k })
    (hs : subscripted slice false (.str x t) (.ref s.heap.objs.size) = operate [.ref s.heap.objs.size, .str x t] (getItem (.str x t) (.ref s.heap.objs.size)) := by with_unfolding_all rfl)
    (ht : ∀ r, letTemporaryGo value (.str x t) r = pure () := by intro _; with_unfolding_all rfl) :
    wpAny (model prog w) A (subscriptTail value slice (.str x t) (.ref s.heap.objs.size)) Q E { s with heap := s.heap.push { cls := .type "slice", data := .fields #[.int j uj, .none, .none] } } :=
  slice_strN_sn hF hN (fun h' t' k a b => by rw [e]; exact h h' t' k a b) hs ht hsz
theorem sliceE_ss {i j : Int} {ui uj : Tok} (e : Txt.slice x (some i) (some j) = y) (hF : Fr h₀ L s.heap m) (hN : News h₀ L s.heap news) (hsz : x.length ≤ sizeLine) (h : ∀ h' t' k, Fr h₀ L h' m → News h₀ L h' news → Q (.str y t') { s with heap := h', toks := k })
    (hs : subscripted slice false (.str x t) (.ref s.heap.objs.size) = operate [.ref s.heap.objs.size, .str x t] (getItem (.str x t) (.ref s.heap.objs.size)) := by with_unfolding_all rfl)
    (ht : ∀ r, letTemporaryGo value (.str x t) r = pure () := by intro _; with_unfolding_all rfl) :
    wpAny (model prog w) A (subscriptTail value slice (.str x t) (.ref s.heap.objs.size)) Q E { s with heap := s.heap.push { cls := .type "slice", data := .fields #[.int i ui, .int j uj, .none] } } :=
  slice_strN_ss hF hN (fun h' t' k a b => by rw [e]; exact h h' t' k a b) hs ht hsz
end
end Mine
end
section
open PySem PySem.W PyProof.Rows PySem.Spec PySem.Calls
set_option maxRecDepth 100000
namespace Mine
section
variable {prog : Program} {w : World} {A : Around} {E : Value → Shared → Prop} {s : Shared} {h₀ : Heap} {L a c P : Addr} {m mg mb : Str → Option Value} {cn : Str} {cs : Scope} {ccd : Value} {cl : List (Str × Addr)} {news : List (Addr × Obj)} {g : Obj → List (Addr × Obj)}
  {p : Program} {loose : List Str} {mean : ExcName → Option Value} {ps : Array Value} {pos : Pos} {clos : List (Str × Addr)} {scope : Scope}
theorem passing_all (n : Nat) : passing (fun _ => true) n 0 = List.range n := by simp [passing]
/-- the code of a genexpr: found or made -/
theorem genCode {env : Env} {qual : Str} {Q : Value → Shared → Prop} (hc : env.code = .ref c) (C : CodeHd s.heap c P) (hP : s.heap.get? P = some (tabObj ps)) (ht : TriplesOk ps.toList)
    (h : ∀ code h' tk ps', TriplesOk ps'.toList → Heap.ExtBut P s.heap h' → s.heap.objs.size ≤ h'.objs.size → h'.get? P = some (tabObj ps') → Q code { s with heap := h', toks := tk }) :
    wpAny (model prog w) A (genexprCode env pos qual scope) Q E s := by
  cases hf : codeAmong pos ps.toList with
  | some cv => exact wpAny_genexprCode_hit hc (C.code hP ht) hf (h cv s.heap s.toks ps ht (Heap.ExtBut.refl _ _) (Nat.le_refl _) hP)
  | none =>
    refine wpAny_genexprCodeX hc (C.code hP ht) (C.tab hP) hf fun c' h' tk hx hge hlt hcode _ htab _ => ?_
    refine h _ h' tk _ ?_ hx (Nat.le_trans hge (Nat.le_of_lt hlt)) htab.2
    have : (ps ++ #[rawInt pos.line, rawInt pos.col, Value.ref c']).toList = ps.toList ++ [rawInt pos.line, rawInt pos.col, .ref c'] := by simp
    rw [this]
    exact TriplesOk_snoc _ _ _ _ ht
theorem genK {D : Addr} {vs : List Value} {k : Nat} {elt iter : Expr} {x : Str} {px : Pos} {Fv : Nat → Value → Prop} {Q : Value → Shared → Prop}
    (F : Fr h₀ L s.heap m) (N : News h₀ L s.heap news) (T : Top p loose mean mg mb h₀) (C : CodeHd h₀ c P) (hcd : ccd = .ref c) (U : UpdF P (tabObj ps) news g) (ht : TriplesOk ps.toList) (G : AllBare s.gens)
    (hD : (D, lstN vs k) ∈ news) (hDP : D ≠ P) (hh : A.handled = none) (hco : scope.isCoroutine = false) (hclos : closureFor scope (envX cn cs L a ccd cl) = pure clos) (hcell : ∀ y ∈ scope.names, y.2 ≠ .cell)
    (h0 : scope.names.lookup (".0" : Str) = some NameKind.local) (hx : scope.names.lookup x = some .local) (hkind : scope.kind = .function) (hroom : A.depth < recursionLimit)
    (helt : ∀ (C : Addr) (code : Value) (A' : Around) (E' : Value → Shared → Prop) (i : Nat) (v : Value) (t : Shared) (m₂ : Str → Option Value), A'.handled = none → vs[i]? = some v → t.heap.Ns C m₂ → m₂ x = some v →
      wpAny (model prog w) A' (eval elt (genEnv scope clos C code builtinsNs (envX cn cs L a ccd cl))) (fun y s₃ => Fv i y ∧ Keeps t s₃) E' t)
    (hi : wpAny (model prog w) A (eval iter (envX cn cs L a ccd cl)) (fun xv s₁ => xv = .ref D ∧ s₁ = s) E s)
    (h : ∀ b K s' ps', TriplesOk ps'.toList → Fr h₀ L s'.heap m → News h₀ L s'.heap (g (tabObj ps')) → AllBare s'.gens → s'.os = s.os → Gen prog w A K b vs.length Fv s' → L ≤ K → (∀ q ∈ g (tabObj ps'), q.1 ≤ K) → Q (.ref b) s')
    (hs : ∀ x, genFold iter (envX cn cs L a ccd cl) x = pure x) :
    wpAny (model prog w) A (eval (.GeneratorExp elt [⟨.Name x px, iter, [], 0⟩] scope pos) (envX cn cs L a ccd cl)) Q E s := by
  obtain ⟨own, rest, rfl, hgr, h1, h2⟩ := U.split
  have hm := N (P, tabObj ps) (List.mem_append_right _ (.head _))
  refine wpAny_GeneratorExp_walksQ hh hco hclos hcell h0 hx hkind hroom (wpAny_mono hi (fun xv s₁ hxv => ?_) fun _ _ e => e) hs
  obtain ⟨rfl, rfl⟩ := hxv
  have hl : s₁.heap.IsList D vs.toArray := ⟨_, N.get hD, rfl, _, rfl⟩
  have hDlt : D < s₁.heap.objs.size := Heap.lt_size (N.get hD)
  have hPlt : P < s₁.heap.objs.size := Heap.lt_size hm.1
  have hlim : s₁.heap.NoLimit := (T.nolimit).keeps F.keep
  refine wpAny_pyIter_list hl ?_
  have k₂ : ∀ b o, s₁.heap.get? b = some o → (s₁.heap.push { cls := .type "list_iterator", data := .fields #[.ref D, .int 0 0] }).get? b = some o := fun b o e => Heap.get?_push_of_some _ e
  refine ⟨hlim.push _, genCode (s := { s₁ with heap := _ }) hcd ((C.keeps F.keep).keeps k₂) (k₂ _ _ hm.1) ht fun code h₃ tk₃ ps' ht' hx₃ hsz htb => ?_⟩
  dsimp only at hx₃ hsz ⊢
  have hsz' : s₁.heap.objs.size < h₃.objs.size := by rw [Heap.size_push] at hsz; exact hsz
  have k₃ : ∀ b o, b ≠ P → s₁.heap.get? b = some o → h₃.get? b = some o := fun b o hb e => hx₃ b o hb (k₂ b o e)
  have hP₀ : ∀ b o, h₀.get? b = some o → b ≠ P := fun b o e q => by rw [q, hm.2.2] at e; cases e
  have old : ∀ b o, h₀.get? b = some o → h₃.get? b = some o := fun b o e => k₃ b o (hP₀ b o e) (F.keep b o e)
  obtain ⟨bm, ob, b1, b2, b3, b4, b5, b6⟩ := T.bmain
  have hl₃ : h₃.NoLimit := (T.nolimit).keeps old
  refine wpAny_builtinsFor (T.g.keeps old) b1 b2 (old _ _ b3) b4 b5 b6 ?_
  have hwL : L < s₁.heap.objs.size := F.ns.lt
  refine ⟨s₁.heap.objs.size, [s₁.heap.objs.size, D], [s₁.heap.objs.size], vs.toArray.size, _, _, fun _ => true, Fv, rfl, fun A' hA => Walks.list hA _ _ (Nat.ne_of_lt hDlt) vs.toArray,
    ⟨⟨_, hx₃ _ _ (Nat.ne_of_gt hPlt) (Heap.get?_push_size _ rfl), rfl, rfl⟩, ⟨_, k₃ _ _ hDP (N.get hD), rfl, _, rfl⟩⟩, ?_, hl₃, ?_, ?_, ?_⟩
  · intro b hb
    show b < h₃.objs.size
    rcases List.mem_cons.mp hb with rfl | hb
    · exact hsz'
    · rcases List.mem_cons.mp hb with rfl | hb
      · exact Nat.lt_trans hDlt hsz'
      · cases hb
  · intro hmem
    have hc : cStatics < s₁.heap.objs.size := let ⟨_, hn, _⟩ := hlim; hn.lt
    rcases List.mem_cons.mp hmem with e | hb
    · exact absurd (e ▸ hc) (Nat.lt_irrefl _)
    · cases hb
  · intro href hhref
    refine ⟨fun A' E' i v t m₂ hA hP hn hm₂ hkp => ?_, fun A' E' i v t m₂ hA hP hp hn hm₂ hkp => ?_⟩
    · exact wpAny_pure ⟨rfl, t.heap, t.toks, rfl, fun _ _ e => e⟩
    · exact helt _ _ A' E' i v t m₂ hA (by simpa using hP) hn hm₂
  · intro b h₅ tk gs hgb hag hsz₅ hk₅ W hat
    have hsa : vs.toArray.size = vs.length := by simp
    refine h b (s₁.heap.objs.size - 1) _ ps' ht' ⟨(F.ns.at fun o e => hk₅ _ _ (k₃ _ _ hm.2.1.symm e)), fun b o e => hk₅ _ _ (old b o e), F.above⟩ ?_ (G.push hgb) rfl ?_ (Nat.le_sub_one_of_lt hwL) ?_
    · intro q hq
      rw [hgr] at hq
      rcases List.mem_append.mp hq with hq | hq
      · have n := N q (List.mem_append_left _ hq)
        exact ⟨hk₅ _ _ (k₃ _ _ (h1 q hq) n.1), n.2⟩
      · rcases List.mem_cons.mp hq with rfl | hq
        · exact ⟨hk₅ _ _ htb, hm.2⟩
        · have n := N q (List.mem_append_right _ (.tail _ hq))
          exact ⟨hk₅ _ _ (k₃ _ _ (h2 q hq) n.1), n.2⟩
    · have X : Gen prog w A (s₁.heap.objs.size - 1) b (passing (fun _ => true) vs.toArray.size 0).length (fun j y => ∃ i, (passing (fun _ => true) vs.toArray.size 0)[j]? = some i ∧ Fv i y) _ :=
        ⟨_, _, _, _, W, hat, (fun i s' st => st.1.typeIs), List.mem_cons_self, by
          intro b hb
          show b < h₅.objs.size
          dsimp only at hag hb
          rw [hsz₅]
          rcases List.mem_cons.mp hb with rfl | hb
          · exact Nat.lt_succ_self _
          · rcases List.mem_cons.mp hb with rfl | hb
            · exact Nat.lt_succ_of_lt hag
            · exact Nat.lt_succ_of_lt (Nat.lt_trans (List.mem_range.mp hb) hag), by
          intro b hb
          rcases List.mem_cons.mp hb with rfl | hb
          · exact Nat.lt_of_le_of_lt (Nat.sub_le _ _) hsz'
          · rcases List.mem_cons.mp hb with rfl | hb
            · exact Nat.sub_one_lt_of_lt hDlt
            · cases hb⟩
      rw [passing_all, hsa, List.length_range] at X
      refine X.imp fun j y hy => ?_
      obtain ⟨i, hi, hF⟩ := hy
      have : i = j := by
        have := List.getElem?_eq_some_iff.mp hi
        obtain ⟨h1, h2⟩ := this
        simpa using h2.symm
      exact this ▸ hF
    · intro q hq
      rw [hgr] at hq
      have : q.1 < s₁.heap.objs.size := by
        rcases List.mem_append.mp hq with hq | hq
        · exact Heap.lt_size (N q (List.mem_append_left _ hq)).1
        · rcases List.mem_cons.mp hq with rfl | hq
          · exact hPlt
          · exact Heap.lt_size (N q (List.mem_append_right _ (.tail _ hq))).1
      exact Nat.le_sub_one_of_lt this
theorem joinK {sep y : Str} {t : Tok} {b K : Addr} {n : Nat} {led : List (Addr × Obj)} {Fv : Nat → Value → Prop} {Q : Value → Shared → Prop} (F : Fr h₀ L s.heap m) (N : News h₀ L s.heap led) (G : AllBare s.gens) (X : Gen prog w A K b n Fv s) (hLK : L ≤ K) (hK : ∀ q ∈ led, q.1 ≤ K)
    (tx : Nat → Str) (htx : ∀ j v, Fv j v → ∃ u, v = .str (tx j) u) (hok : JoinOk sep ((List.range n).map tx) = true) (e : Txt.join sep ((List.range n).map tx) = y)
    (h : ∀ s' t', Fr h₀ L s'.heap m → News h₀ L s'.heap led → AllBare s'.gens → s'.os = s.os → Q (.str y t') s') (hsz : n ≤ sizeLine := by size_fits) :
    wpAny (model prog w) A (call (.builtin "str.join") [.str sep t, .ref b]) Q E s :=
  join_rowsK F G X hLK tx htx hok (fun s' t' f g o k => by rw [e]; exact h s' t' f (fun q hq => ⟨k _ _ (hK q hq) (N q hq).1, (N q hq).2⟩) g o) hsz
end
end Mine
end
section
open PySem PySem.W PyProof.Rows PySem.Spec PySem.Calls
set_option maxRecDepth 100000
namespace Mine
theorem method_sub {prog : Program} {w : World} {A : Around} {E : Value → Shared → Prop} {s : Shared} {pl : Sem Bool} {Q : Value × List Value → Shared → Prop} (X : (hd.heap_1 w.params).In s.heap)
    (h : Q (.builtin "re.Pattern.sub", [.ref 69]) s) : wpAny (model prog w) A (getMethod (.ref 69) (Str.ofString "sub") pl) Q E s := by
  have h1 := X _ _ (tw_at w)
  exact getMethod_builtin ⟨twObj, h1, rfl⟩ plainAttrs_pat slot_pat_sub type_pat_sub (fun a e => by cases e; exact ⟨twObj, h1, rfl⟩) h
section
variable {prog : Program} {w : World} {A : Around} {E : Value → Shared → Prop} {s : Shared} {h₀ : Heap} {L a c P : Addr} {m mg mb : Str → Option Value} {cn : Str} {cs : Scope} {ccd : Value} {cl : List (Str × Addr)} {news : List (Addr × Obj)} {g : Obj → List (Addr × Obj)}
  {p : Program} {loose : List Str} {mean : ExcName → Option Value} {ps : Array Value} {pos : Pos} {clos : List (Str × Addr)} {scope : Scope} {params : Arguments} {body : Expr}
theorem subK {x : Str} {t : Tok} {f : Addr} {o : Obj} {Q : Value → Shared → Prop} (F : Fr h₀ L s.heap m) (N : News h₀ L s.heap news) (X : (hd.heap_1 w.params).In h₀) (hf : (f, o) ∈ news) (ho : o.cls = .type "function")
    {k : Nat} (hk : k ≤ 2 ^ 40) (hno : NoHit x k) (hx : x.cps.size ≠ 0) (hxl : x.length ≤ 1000) (hjoin : Txt.join ⟨#[]⟩ [x] = x) (hjok : JoinOk ⟨#[]⟩ [x] = true)
    (h : ∀ h' tk t', Fr h₀ L h' m → News h₀ L h' news → Q (.str x t') { s with heap := h', toks := tk }) :
    wpAny (model prog w) A (call (.builtin "re.Pattern.sub") [.ref 69, .ref f, .str x t]) Q E s :=
  call_sub (X.keeps F.keep) (N.get hf) ho hk hno hx hxl hjoin hjok fun h' tk t' kp _ => h h' tk t' (F.keeps kp) (fun q hq => ⟨kp _ _ (N q hq).1, (N q hq).2⟩)
theorem lamK {Q : Value → Shared → Prop} (F : Fr h₀ L s.heap m) (N : News h₀ L s.heap news) (T : Top p loose mean mg mb h₀) (C : CodeHd h₀ c P) (hcd : ccd = .ref c) (U : UpdF P (tabObj ps) news g) (ht : TriplesOk ps.toList)
    (hcl : closureFor scope (envX cn cs L a ccd cl) = pure clos) (hdef : defaultsOf params (envX cn cs L a ccd cl) = ([], []))
    (h : ∀ f o h' tk ps', TriplesOk ps'.toList → o.cls = .type "function" → Fr h₀ L h' m → News h₀ L h' ((f, o) :: g (tabObj ps')) → (∀ q ∈ g (tabObj ps'), q.1 < f) → Q (.ref f) { s with heap := h', toks := tk }) :
    wpAny (model prog w) A (eval (.Lambda params body scope pos) (envX cn cs L a ccd cl)) Q E s := by
  refine kla_eval hdef ?_
  cases hf : codeAmong pos ps.toList with
  | none =>
    refine kla_nest F N T C hcd U ht hf hcl fun f c' oc vs t ctv h' tk F' N' hd hv l1 l2 => ?_
    refine h f (kla_obj "<lambda>" ((envX cn cs L a ccd cl).qual ++ Str.ofString "<lambda>") params body scope clos ((mg "__name__").getD .none) c' ctv) h' tk (ps ++ #[rawInt pos.line, rawInt pos.col, .ref c']) ?_ rfl F' (fun q hq => ?_) (fun q hq => ?_)
    · have : (ps ++ #[rawInt pos.line, rawInt pos.col, Value.ref c']).toList = ps.toList ++ [rawInt pos.line, rawInt pos.col, .ref c'] := by simp
      rw [this]
      exact TriplesOk_snoc _ _ _ _ ht
    · rcases List.mem_cons.mp hq with rfl | hq
      · exact N' _ (.head _)
      · exact N' _ (.tail _ (.tail _ hq))
    · obtain ⟨own, rest, e1, hgr, _, _⟩ := U.split
      rw [hgr] at hq
      have hn : ∃ q' ∈ news, q'.1 = q.1 := by
        rw [e1]
        rcases List.mem_append.mp hq with hq | hq
        · exact ⟨q, List.mem_append_left _ hq, rfl⟩
        · rcases List.mem_cons.mp hq with rfl | hq
          · exact ⟨_, List.mem_append_right _ (.head _), rfl⟩
          · exact ⟨q, List.mem_append_right _ (.tail _ hq), rfl⟩
      obtain ⟨q', hq', e⟩ := hn
      rw [← e]
      exact Nat.lt_trans (l1 q' hq') l2
  | some cv =>
    obtain ⟨own, rest, e1, hgr, _, _⟩ := U.split
    have eg : g (tabObj ps) = news := by rw [e1, hgr]
    have hm := N (P, tabObj ps) (by rw [e1]; exact List.mem_append_right _ (.head _))
    have hgs := T.g.keeps F.keep
    obtain ⟨bm, ob, b1, b2, b3, b4, b5, b6⟩ := T.bmain
    have hbP : bm ≠ P := fun q => by
      have e := F.keep _ _ b3
      rw [q, hm.1] at e; cases e; cases b4
    have hbG : bm ≠ mainGlobals := fun q => by
      obtain ⟨o, es, ep, e, hd, _⟩ := T.g
      rw [q, e] at b3; cases b3; rw [hd] at b6; cases b6
    refine kla_makeFunctionHit (mg := mg) hcl rfl hgs hcd (C.keeps F.keep) hm.1 ht hf ⟨bm, ob, b1, b2, hbG, hbP, F.keep _ _ b3, b4, b5, b6⟩ fun ctv h' tk hk hsz => ?_
    have hLs : L < h'.objs.size := Nat.lt_of_lt_of_le F.ns.lt hsz
    have fresh : ∀ b, L < b → h₀.get? b = none := fun b hb => Heap.get?_none_of_le (Nat.le_trans F.above (Nat.le_of_lt hb))
    refine h h'.objs.size { cls := .type "function", data := .func (kla_fn "<lambda>" ((envX cn cs L a ccd cl).qual ++ Str.ofString "<lambda>") params body scope clos ((mg "__name__").getD .none) cv ctv) } _ tk ps ht rfl ⟨(F.ns.keeps hk).push _, fun b o e => Heap.get?_push_of_some _ (hk b o (F.keep b o e)), F.above⟩ (fun q hq => ?_) (fun q hq => ?_)
    · rcases List.mem_cons.mp hq with rfl | hq
      · exact ⟨Heap.get?_push_size _ rfl, Nat.ne_of_gt hLs, fresh _ hLs⟩
      · rw [eg] at hq
        exact ⟨Heap.get?_push_of_some _ (hk _ _ (N q hq).1), (N q hq).2⟩
    · rw [eg] at hq
      exact Nat.lt_of_lt_of_le (Heap.lt_size (N q hq).1) hsz
end
end Mine
end
section
open PySem PySem.W PyProof.Rows PySem.Spec PySem.Calls
set_option maxRecDepth 100000
namespace Mine
/-- a contract that tells of the generators too: they may grow, all bare; the code's table may grow too -/
noncomputable abbrev ConT (w : World) (p : Program) (loose : List Str) (mean : ExcName → Option Value) (mg mb : Str → Option Value) (f : Addr) (vs : List Value) (d : Nat) (P : Addr) (ps : Array Value) (news : List (Addr × Obj)) (R : Value → List (Addr × Obj) → Prop) : Prop :=
  ∀ (dp un : Nat) (gd : Option (List Code)) (cn : Str) (cs : Scope) (a : Addr) (ccd : Value) (cl : List (Str × Addr)) (outer : List Env) (A₀ : Around) (base h₀ : Heap) (L : Addr) (m : Str → Option Value) (s : Shared) (Q E : Value → Shared → Prop),
    Below A₀ base outer h₀ → Fr h₀ L s.heap m → (hd.heap_1 w.params).In h₀ → News h₀ L s.heap ((P, tabObj ps) :: news) → Top p loose mean mg mb h₀ → cs.kind = .function → AllBare s.gens →
    dp + d < recursionLimit → un + 8 * d < cLine →
    (∀ r s' tl ps', s'.os = s.os → AllBare s'.gens → TriplesOk ps'.toList → Fr h₀ L s'.heap m → News h₀ L s'.heap (tl ++ (P, tabObj ps') :: news) → R r tl → Q r s') →
    wpAny (model PySem.Challenge.rw_ik0051_01.row.prog w) (ktrTop dp un gd cn cs L a ccd cl outer) (call (.ref f) vs) Q E s
/-- a turn's end -/
noncomputable def WStep (h₀ : Heap) (L : Addr) (s : Shared) (y : Str) (stored : List Str) (m₀ : Str → Option Value) (J : Nat → Int → List (Addr × Obj) → Prop) (Q : Flow → Shared → Prop) (n : Nat) (f : Flow) (s₃ : Shared) : Prop :=
  match f with
  | .next | .cont => ∃ m₂ news₂ n' i' t', s₃.os = s.os ∧ AllBare s₃.gens ∧ Fr h₀ L s₃.heap m₂ ∧ News h₀ L s₃.heap news₂ ∧ m₂ y = some (.int i' t') ∧ (∀ x, x ≠ y → stored.contains x = false → m₂ x = m₀ x) ∧ n' < n ∧ J n' i' news₂
  | .brk => Q .next s₃
  | .ret v => Q (.ret v) s₃
section
variable {prog : Program} {w : World} {A : Around} {E : Value → Shared → Prop} {Q : Flow → Shared → Prop} {s : Shared} {env : Env} {h₀ : Heap} {L : Addr} {m₀ : Str → Option Value} {news : List (Addr × Obj)} {test : Expr} {body : List Stmt}
theorem whl_tok {k n₀ : Nat} {i₀ : Int} {t₀ : Tok} (y : Str) (stored : List Str) (J : Nat → Int → List (Addr × Obj) → Prop)
    (F : Fr h₀ L s.heap m₀) (N : News h₀ L s.heap news) (G : AllBare s.gens) (hy : m₀ y = some (.int i₀ t₀)) (hJ : J n₀ i₀ news)
    (turn : ∀ n i t (u : Str → Option Value) news₁ s₁, s₁.os = s.os → AllBare s₁.gens → J n i news₁ → Fr h₀ L s₁.heap (fun x => if x = y then some (.int i t) else if stored.contains x then u x else m₀ x) → News h₀ L s₁.heap news₁ →
      wpAny (model prog w) A (isTrue test env (eval test env)) (fun b s₂ => WhlIf b (wpAny (model prog w) A (execs body env) (WStep h₀ L s y stored m₀ J Q n) E s₂) (Q .next s₂)) E s₁)
    (hE : PassesOwn (model prog w) A env E := by passes_own) : WhlRest prog w A E env test body [] Q k s := by
  refine codeAny_whileLoop (fun n s' => ∃ m₁ news₁ i t, s'.os = s.os ∧ AllBare s'.gens ∧ Fr h₀ L s'.heap m₁ ∧ News h₀ L s'.heap news₁ ∧ m₁ y = some (.int i t) ∧ (∀ x, x ≠ y → stored.contains x = false → m₁ x = m₀ x) ∧ J n i news₁) ?_ n₀ ⟨m₀, news, i₀, t₀, rfl, G, F, N, hy, fun _ _ _ => rfl, hJ⟩
  rintro n s' ⟨m₁, news₁, i, t, ho, G₁, F₁, N₁, hy₁, hm₁, J₁⟩
  have e : (fun x => if x = y then some (.int i t) else if stored.contains x then m₁ x else m₀ x) = m₁ := by
    funext x
    by_cases h1 : x = y
    · subst h1; simp [hy₁]
    · simp only [if_neg h1]
      cases h9 : stored.contains x with
      | true => simp
      | false => simp only [Bool.false_eq_true, if_false]; exact (hm₁ x h1 h9).symm
  refine wpAny_mono (turn n i t m₁ news₁ s' ho G₁ J₁ (by rw [e]; exact F₁) N₁) (fun b s₂ h₂ => ?_) hE
  cases b with
  | false =>
    unfold WhlIf at h₂
    simp only [Bool.false_eq_true, if_false] at h₂ ⊢
    exact wpAny_execs_nil h₂
  | true =>
    unfold WhlIf at h₂
    simp only [if_true] at h₂ ⊢
    refine wpAny_mono h₂ (fun f s₃ h₃ => ?_) hE
    cases f with
    | next =>
      obtain ⟨m₂, news₂, n', i', t', a1, a2, a3, a4, a5, a6, hn, J₂⟩ := h₃
      exact ⟨n', hn, m₂, news₂, i', t', a1, a2, a3, a4, a5, a6, J₂⟩
    | cont =>
      obtain ⟨m₂, news₂, n', i', t', a1, a2, a3, a4, a5, a6, hn, J₂⟩ := h₃
      exact ⟨n', hn, m₂, news₂, i', t', a1, a2, a3, a4, a5, a6, J₂⟩
    | brk => exact h₃
    | ret v => exact h₃
end
/-- a turn's end where a list with its bound append and the code's table go on -/
noncomputable def RStep (h₀ : Heap) (L : Addr) (s : Shared) (y : Str) (stored : List Str) (m₀ : Str → Option Value) (b l P : Addr) (news : List (Addr × Obj)) (J : Nat → Int → List Value → Prop) (Q : Flow → Shared → Prop) (n : Nat) (f : Flow) (s₃ : Shared) : Prop :=
  match f with
  | .next | .cont => ∃ m₂ xs' c' ps' n' i' t', s₃.os = s.os ∧ AllBare s₃.gens ∧ TriplesOk ps'.toList ∧ Fr h₀ L s₃.heap m₂ ∧ News h₀ L s₃.heap ((b, bmObj l) :: (l, W.listOf xs' c') :: (P, tabObj ps') :: news) ∧ m₂ y = some (.int i' t') ∧ (∀ x, x ≠ y → stored.contains x = false → m₂ x = m₀ x) ∧ n' < n ∧ J n' i' xs'.toList
  | .brk => Q .next s₃
  | .ret v => Q (.ret v) s₃
section
variable {prog : Program} {w : World} {A : Around} {E : Value → Shared → Prop} {Q : Flow → Shared → Prop} {s : Shared} {env : Env} {h₀ : Heap} {L : Addr} {m₀ : Str → Option Value} {news : List (Addr × Obj)} {test : Expr} {body : List Stmt}
theorem RStep.intro {s₃ : Shared} {y : Str} {stored : List Str} {b l P : Addr} {J : Nat → Int → List Value → Prop} {n n' : Nat} {m₂ : Str → Option Value} {xs' : Array Value} {c' : Nat} {ps' : Array Value} {i' : Int} {t' : Tok} {led : List (Addr × Obj)}
    (F : Fr h₀ L s₃.heap m₂) (N : News h₀ L s₃.heap led) (hb : (b, bmObj l) ∈ led) (hl : (l, W.listOf xs' c') ∈ led) (hP : (P, tabObj ps') ∈ led) (sub : ∀ p ∈ news, p ∈ led) (ho : s₃.os = s.os) (G : AllBare s₃.gens) (ht : TriplesOk ps'.toList)
    (hy : m₂ y = some (.int i' t')) (hm : ∀ x, x ≠ y → stored.contains x = false → m₂ x = m₀ x) (hn : n' < n) (hJ : J n' i' xs'.toList) : RStep h₀ L s y stored m₀ b l P news J Q n .next s₃ :=
  ⟨m₂, xs', c', ps', n', i', t', ho, G, ht, F, (fun p hp => N p (by
    rcases List.mem_cons.mp hp with rfl | hp
    · exact hb
    · rcases List.mem_cons.mp hp with rfl | hp
      · exact hl
      · rcases List.mem_cons.mp hp with rfl | hp
        · exact hP
        · exact sub p hp)), hy, hm, hn, hJ⟩
theorem whl_res {k n₀ : Nat} {i₀ : Int} {t₀ : Tok} {D b l P : Addr} {oD : Obj} {xs ps : Array Value} {c : Nat} (y : Str) (stored : List Str) (J : Nat → Int → List Value → Prop)
    (F : Fr h₀ L s.heap m₀) (N : News h₀ L s.heap ((D, oD) :: (b, bmObj l) :: (l, W.listOf xs c) :: (P, tabObj ps) :: news)) (G : AllBare s.gens) (ht : TriplesOk ps.toList) (hy : m₀ y = some (.int i₀ t₀)) (hJ : J n₀ i₀ xs.toList)
    (turn : ∀ n i t (u : Str → Option Value) vs c₁ ps₁ s₁, s₁.os = s.os → AllBare s₁.gens → J n i vs → TriplesOk ps₁.toList → Fr h₀ L s₁.heap (fun x => if x = y then some (.int i t) else if stored.contains x then u x else m₀ x) →
      News h₀ L s₁.heap ((b, bmObj l) :: (l, W.listOf vs.toArray c₁) :: (P, tabObj ps₁) :: news) →
      wpAny (model prog w) A (isTrue test env (eval test env)) (fun b₁ s₂ => WhlIf b₁ (wpAny (model prog w) A (execs body env) (RStep h₀ L s y stored m₀ b l P news J Q n) E s₂) (Q .next s₂)) E s₁)
    (hE : PassesOwn (model prog w) A env E := by passes_own) : WhlRest prog w A E env test body [] Q k s := by
  refine whl_tok (n₀ := n₀) y stored (fun n i led => ∃ vs c₁ ps₁, led = (b, bmObj l) :: (l, W.listOf vs c₁) :: (P, tabObj ps₁) :: news ∧ TriplesOk ps₁.toList ∧ J n i vs.toList) F (fun p hp => N p (List.mem_cons_of_mem _ hp)) G hy ⟨xs, c, ps, rfl, ht, hJ⟩ ?_ hE
  rintro n i t u news₁ s₁ ho G₁ ⟨vs, c₁, ps₁, rfl, ht₁, hJ₁⟩ F₁ N₁
  refine wpAny_mono (turn n i t u vs.toList c₁ ps₁ s₁ ho G₁ hJ₁ ht₁ F₁ (by simpa using N₁)) (fun b₁ s₂ h₂ => ?_) fun _ _ e => e
  cases b₁ with
  | false => exact h₂
  | true =>
    unfold WhlIf at h₂ ⊢
    rw [if_pos rfl] at h₂ ⊢
    refine wpAny_mono h₂ (fun f s₃ h₃ => ?_) fun _ _ e => e
    cases f with
    | next =>
      obtain ⟨m₂, xs', c', ps', n', i', t', a1, a2, a3, a4, a5, a6, a7, a8, a9⟩ := h₃
      exact ⟨m₂, _, n', i', t', a1, a2, a4, a5, a6, a7, a8, xs', c', ps', rfl, a3, a9⟩
    | cont =>
      obtain ⟨m₂, xs', c', ps', n', i', t', a1, a2, a3, a4, a5, a6, a7, a8, a9⟩ := h₃
      exact ⟨m₂, _, n', i', t', a1, a2, a4, a5, a6, a7, a8, xs', c', ps', rfl, a3, a9⟩
    | brk => exact h₃
    | ret v => exact h₃
end
section
open Builtin Builtin.Str
variable {prog : Program} {w : World} {A : Around} {E : Value → Shared → Prop} {s : Shared} {x y : Str} {t u : Tok}
theorem inE {b : Bool} {Q : Value → Shared → Prop} (e : Txt.contains x y = b) (h : Q (.bool b) s) : wpAny (model prog w) A (compareOp .In (.str y u) (.str x t)) Q E s := P.in_str (by subst e; exact h)
theorem notInE {b : Bool} {Q : Value → Shared → Prop} (e : Txt.contains x y = b) (h : Q (.bool (!b)) s) : wpAny (model prog w) A (compareOp .NotIn (.str y u) (.str x t)) Q E s := P.notIn_str (by subst e; exact h)
noncomputable def find4 (x y : Str) (i j : Int) : Int := match occurrences x y (fromIndex x.length i) (min (fromIndex x.length j) x.length) 1 with | k :: _ => (k : Int) | [] => -1
theorem gives_find4 (x y : Str) (i j : Int) (t u v v2 : Tok) : Gives («str.find» ⟨[.str x t, .str y u, .int i v, .int j v2], []⟩) (.int (find4 x y i j)) := by
  show Gives (match occurrences x y (fromIndex x.length i) (min (fromIndex x.length j) x.length) 1 with | k :: _ => retInt k | [] => (do rule "str.find.not-found"; retInt (-1))) _
  unfold find4
  cases occurrences x y (fromIndex x.length i) (min (fromIndex x.length j) x.length) 1 with
  | nil => exact .rule (.of_eq rfl)
  | cons k _ => exact .of_eq rfl
theorem findE {i j r : Int} {v v2 : Tok} {Q : Value → Shared → Prop} (e : find4 x y i j = r) (h : Q (.int r s.toks) { s with toks := s.toks + 1 }) : wpAny (model prog w) A (call (.builtin "str.find") [.str x t, .str y u, .int i v, .int j v2]) Q E s :=
  call_gives F.slot_str_find (typeIs_str _ _ _) F.entry_str_find (F.args_str_find_4 _ _ _ _) (gives_find4 x y i j t u v v2) (by rw [e]; exact h)
end
end Mine
end
section
open PySem PySem.W PyProof.Rows PySem.Spec PySem.Calls
set_option maxRecDepth 100000
namespace Mine
open PySem.Builtin PySem.Builtin.Str
noncomputable def escKeys : List Nat := [40, 41, 91, 93, 123, 125, 63, 42, 43, 45, 124, 94, 36, 92, 46, 38, 126, 35, 32, 9, 10, 13, 11, 12]
noncomputable def escEnts : Array DictEntry := (escKeys.zipIdx.map fun p => ({ hash := Int.ofNat p.1, key := .int (Int.ofNat p.1) (399 + 6 * p.2), val := .str ⟨#[92, p.1]⟩ (403 + 6 * p.2) } : DictEntry)).toArray
noncomputable def escObj : Obj := { cls := .type "dict", dict := none, data := .dict escEnts 24, slots := #[] }
theorem esc_at (w : World) : (hd.heap_1 w.params).lookup 78 = some escObj := by kernel_rfl
theorem esc_keys : (escEnts.toList.all fun e => match e.key with | .int k _ => e.hash == hashInt k | _ => false) = true := by decide +kernel
theorem esc_map {prog : Program} {w : World} {h : Heap} (e : h.get? 78 = some escObj) : h.MapOf (intKind prog w) 78 (fun k => findBy (intKind prog w).is escEnts k) := by
  refine ⟨escObj, escEnts, 24, e, ⟨rfl, rfl, rfl⟩, rfl, fun e he => ?_, fun k => rfl⟩
  have h1 := List.all_eq_true.mp esc_keys e (by simpa using he)
  cases hk : e.key with
  | int k t =>
    rw [hk] at h1
    exact ⟨k, by show Value.isInt k (Value.int k t) = true; simp [Value.isInt], by simp only [beq_iff_eq] at h1; exact h1⟩
  | _ => rw [hk] at h1; cases h1
section
variable {prog : Program} {w : World} {A : Around} {E : Value → Shared → Prop} {s : Shared}
theorem lookup_dot {Q : Mapped → Shared → Prop} (e : s.heap.get? 78 = some escObj) (h : ∀ tk, Q (.text "\\.") { s with toks := tk }) : wpAny (model prog w) A (tableLookup (.ref 78) 46) Q E s := by
  unfold tableLookup
  refine wpAny_bind (wpAny_attempt (wpAny_bind (wpAny_mkInt ?_)))
  refine wpAny_getItem_of (knd := intKind prog w) (k := 46) (intKind_is prog w 46 _) (esc_map e) (v := .str "\\." 487) (by rfl) ?_
  dsimp only
  refine wpAny_bind (wpAny_pure (a := none) ?_)
  dsimp only
  refine wpAny_bind (wpAny_pure (a := some (Str.ofString "\\.")) ?_)
  exact wpAny_pure (h _)
theorem type_str_translate : typeOf (.builtin "str.translate") = pure (.type "method_descriptor") := by show builtinType _ = _; rw [builtinType_eq_fast]; kernel_rfl
theorem call_translate {t : Tok} {Q : Value → Shared → Prop} (X : (hd.heap_1 w.params).In s.heap)
    (h : ∀ t' tk, Q (.str (Str.ofString "\\.") t') { s with toks := tk }) : wpAny (model prog w) A (call (.builtin "str.translate") [.str (Str.ofString ".") t, .ref 78]) Q E s := by
  have e := X _ _ (esc_at w)
  refine wpAny_call_entry F.slot_str_translate (typeIs_str _ _ _) F.entry_str_translate ?_ (F.args_str_translate_2 _ _)
  unfold Builtin.«str.translate»
  refine wpAny_bind (wpAny_pure (a := (Value.str (Str.ofString ".") t, Str.ofString ".", Value.ref 78)) ?_)
  dsimp only
  rw [if_neg (by decide)]
  rw [show (Str.ofString ".").cps = #[46] from by decide +kernel]
  refine wpAny_bind ?_
  rw [← Array.forIn_toList]
  rw [show (#[46] : Array Nat).toList = [46] from rfl, List.forIn_cons]
  refine wpAny_bind ?_
  rw [if_neg (by decide)]
  rw [if_pos (by decide +kernel)]
  dsimp only [List.lookup]
  refine wpAny_bind (lookup_dot e fun tk => ?_)
  dsimp only
  rw [if_neg (by decide)]
  dsimp only
  refine wpAny_bind (wpAny_pure ?_)
  dsimp only
  refine wpAny_bind (wpAny_rule ?_)
  rw [if_neg (by decide)]
  refine wpAny_bind (lookup_dot e fun tk => ?_)
  dsimp only
  refine wpAny_pure ?_
  dsimp only
  rw [List.forIn_nil]
  refine wpAny_pure ?_
  dsimp only
  rw [if_neg (by decide)]
  refine wpAny_bind (wpAny_mkStr ?_ (by decide +kernel))
  have ee : (⟨([Str.ofString "\\."].reverse.foldl (fun acc p => acc ++ p.cps) #[] : Array Nat)⟩ : Str) = Str.ofString "\\." := by decide +kernel
  rw [ee]
  exact wpAny_pure ⟨_, rfl, h _ _⟩
theorem translateK {h₀ : Heap} {L : Addr} {m : Str → Option Value} {t : Tok} {Q : Value → Shared → Prop} (F : Fr h₀ L s.heap m) (X : (hd.heap_1 w.params).In h₀)
    (h : ∀ t' tk, Q (.str (Str.ofString "\\.") t') { s with toks := tk }) : wpAny (model prog w) A (call (.builtin "str.translate") [.str (Str.ofString ".") t, .ref 78]) Q E s := call_translate (X.keeps F.keep) h
theorem method_translate {x : Str} {t : Tok} {pl : Sem Bool} {Q : Value × List Value → Shared → Prop} (h : Q (.builtin "str.translate", [.str x t]) s) : wpAny (model prog w) A (getMethod (.str x t) (Str.ofString "translate") pl) Q E s :=
by with_reducible exact GM.of (.str x t) (typeIs_str _ _ _) F.slot_str_translate type_str_translate GM.noRef h
end
theorem rows_Esc : True := by
  k_with_none
  (k_with "call builtin:str.translate" => (k_here; (refine' translateK (by k_asm) (by k_asm) ?_); intro _ _))
  (k_with "getMethod str" => (k_here; refine method_translate ?_))
  (k_with "eval Constant int" => (refine m_int ?_))
  (k_with "eval Constant str" => (refine m_str ?_))
  (k_with "binaryOp Add int int" => (refine m_add ?_))
  (k_with "binaryOp Sub int int" => (refine m_sub ?_))
  (k_with "inplaceOp Add int int" => (refine m_iadd ?_))
  (k_with "unaryOp USub int" => (refine m_neg ?_))
  (k_with "execs nil" => (k_here; (try dsimp only); refine wpAny_execs_nil ?_))
  (k_with "execs cons" => (k_here; (try dsimp only); (try (refine gen_tok ?_; intro _)); refine execs_let ?_; intro _))
  exact True.intro
set_option maxHeartbeats 8000000 in
theorem esc_con (w : World) (p : Program) (loose : List Str) (mean : ExcName → Option Value) (mg mb : Str → Option Value) (news : List (Addr × Obj)) (t : Tok) :
   Con w p loose mean mg mb 88 [.str (Str.ofString ".") t] 1 news (fun r tl => ∃ t', r = .str (Str.ofString "\\.") t' ∧ tl = []) := by
  unfold Con
  k_fill
  intro dp un gd cn cs a ccd cl outer A₀ base h₀ L m s Q E B F X N T hk hd hu hret
  refine wpAny_call ?_
  k_dflt cell_enter
  k_steps
  all_goals exact hret _ _ _ [] (by k_asm) (by k_asm) ⟨_, rfl, rfl⟩
theorem rowsoff_Esc : True := by
  k_with_none
  exact True.intro
end Mine
end
section
open PySem PySem.W PyProof.Rows PySem.Spec PySem.Calls
set_option maxRecDepth 100000
namespace Mine
structure DigAt (x : Str) (i : Int) : Prop where
  a0 : Txt.item x i = "["
  a1 : Txt.item x (i+1) = "0"
  a2 : Txt.item x (i+1+1) = "-"
  a3 : Txt.item x (i+1+1+1) = "9"
  a4 : Txt.item x (i+1+1+1+1) = "]"
  s1 : Txt.slice x (some (i+1)) (some (i+1+1+1+1)) = "0-9"
  f1 : find4 x "-" (i+1+1) (i+1+1+1+1) = i+1+1
  s2 : Txt.slice x (some (i+1)) (some (i+1+1)) = "0"
  f2 : find4 x "-" (i+1+1+3) (i+1+1+1+1) = -1
  s3 : Txt.slice x (some (i+1+1+1)) (some (i+1+1+1+1)) = "9"
theorem allLt_mem {I : Addr} : ∀ {l : List (Addr × Obj)}, AllLt I l → ∀ p ∈ l, p.1 < I
  | [], _ => fun _ h => nomatch h
  | _ :: _, hl => fun p hp => by
    rcases List.mem_cons.mp hp with rfl | hp
    · exact hl.1
    · exact allLt_mem hl.2 p hp
theorem UnrEnd_head {h₀ : Heap} {L I : Addr} {it : Obj} {rest : (Str → Option Value) → List (Addr × Obj) → Prop} {s₁ : Shared} {h' : Heap} {tk : Nat} {m' : Str → Option Value} {news' : List (Addr × Obj)} (F : Fr h₀ L h' m') (N : News h₀ L h' ((I, it) :: news'))
    (off : AllLt I news') (r : rest m' news') : UnrEnd h₀ L s₁ I it rest { s₁ with heap := h', toks := tk } := UnrEnd.intro F N news' (fun p hp => hp) (fun p hp => Nat.ne_of_lt (allLt_mem off p hp)) r
theorem item_lst {prog : Program} {w : World} {A : Around} {E : Value → Shared → Prop} {s : Shared} {h₀ : Heap} {L a : Addr} {news : List (Addr × Obj)} {xs : Array Value} {n : Nat} {Q : Value → Shared → Prop} {value slice : Expr} {k : Int} {u : Tok} {v : Value} (N : News h₀ L s.heap news) (hm : (a, W.listOf xs n) ∈ news) (h0 : 0 ≤ k) (hhi : k < 2 ^ 63) (hx : xs[k.toNat]? = some v) (h : Q v s)
    (hs : subscripted slice false (.ref a) (.int k u) = operate [.ref a, .int k u] (getItem (.ref a) (.int k u)) := by with_unfolding_all rfl) :
    wpAny (model prog w) A (subscriptTail value slice (.ref a) (.int k u)) Q E s :=
  have hl : s.heap.IsList a xs := ⟨_, N.get hm, rfl, _, rfl⟩
  tail_any hl.typeIs slot_list_getitem.lookup (wpAny_getItem_list hl h0 hhi hx h) hs
theorem item_lst0 {prog : Program} {w : World} {A : Around} {E : Value → Shared → Prop} {s : Shared} {h₀ : Heap} {L a : Addr} {news : List (Addr × Obj)} {xs : Array Value} {n : Nat} {Q : Value → Shared → Prop} {value slice : Expr} {k : Int} {u : Tok} {v : Value} {r : List Value} (N : News h₀ L s.heap news) (hm : (a, W.listOf xs n) ∈ news) (hk : k = 0) (hx : xs.toList = v :: r) (h : Q v s)
    (hs : subscripted slice false (.ref a) (.int k u) = operate [.ref a, .int k u] (getItem (.ref a) (.int k u)) := by with_unfolding_all rfl) :
    wpAny (model prog w) A (subscriptTail value slice (.ref a) (.int k u)) Q E s :=
  item_lst N hm (by omega) (by omega) (by subst hk; rw [← Array.getElem?_toList, hx]; rfl) h hs
theorem item_lst1 {prog : Program} {w : World} {A : Around} {E : Value → Shared → Prop} {s : Shared} {h₀ : Heap} {L a : Addr} {news : List (Addr × Obj)} {xs : Array Value} {n : Nat} {Q : Value → Shared → Prop} {value slice : Expr} {k : Int} {u : Tok} {v v0 : Value} {r : List Value} (N : News h₀ L s.heap news) (hm : (a, W.listOf xs n) ∈ news) (hk : k = 1) (hx : xs.toList = v0 :: v :: r) (h : Q v s)
    (hs : subscripted slice false (.ref a) (.int k u) = operate [.ref a, .int k u] (getItem (.ref a) (.int k u)) := by with_unfolding_all rfl) :
    wpAny (model prog w) A (subscriptTail value slice (.ref a) (.int k u)) Q E s :=
  item_lst N hm (by omega) (by omega) (by subst hk; rw [← Array.getElem?_toList, hx]; rfl) h hs
noncomputable def OutT (st : Addr) (q : Nat) (vs : List Value) : Prop := ∃ t0 rest, vs = .ref st :: .str (Str.ofString "\\.") t0 :: rest ∧ StrsAre rest (List.replicate q "[0-9]")
open Builtin Builtin.Str in
/-- replace where nothing is to replace -/
theorem replaceNo {prog : Program} {w : World} {A : Around} {E : Value → Shared → Prop} {s : Shared} {x y z : Str} {t u v : Tok} {Q : Value → Shared → Prop} (e : (occurrences x y 0 x.length (x.length + 1)).isEmpty = true) (h : Q (.str x t) s) :
    wpAny (model prog w) A (call (.builtin "str.replace") [.str x t, .str y u, .str z v]) Q E s := by
  refine call_gives F.slot_str_replace (typeIs_str _ _ _) F.entry_str_replace (F.args_str_replace_3 _ _ _) (gives_str_replace x y z t u v fun hc => ?_) ?_
  · rw [e] at hc; simp at hc
  · simp only [e, Bool.true_or, if_true]
    exact h
theorem strsAre_len : ∀ {vs : List Value} {ss : List Str}, StrsAre vs ss → vs.length = ss.length
  | _, _, .nil => rfl
  | _, _, .cons _ _ h => by simp [strsAre_len h]
theorem OutT.len {st : Addr} {q : Nat} {vs : List Value} (h : OutT st q vs) : vs.length = q + 2 := by
  obtain ⟨t0, rest, rfl, hr⟩ := h
  have := strsAre_len hr
  simp at this ⊢
  omega
theorem strsAre_snoc {x : Str} {t : Tok} : ∀ {vs : List Value} {ss : List Str}, StrsAre vs ss → StrsAre (vs ++ [.str x t]) (ss ++ [x])
  | _, _, .nil => .cons x t .nil
  | _, _, .cons _ _ h => .cons _ _ (strsAre_snoc h)
theorem OutT.snoc {st : Addr} {q : Nat} {vs : List Value} {x : Str} {t : Tok} (h : OutT st q vs) (e : x = "[0-9]") : OutT st (q + 1) (vs ++ [.str x t]) := by
  obtain ⟨t0, rest, rfl, hr⟩ := h
  refine ⟨t0, rest ++ [.str x t], rfl, ?_⟩
  subst e
  rw [List.replicate_succ']
  exact strsAre_snoc hr
noncomputable def codeO94 : Obj := { cls := .type "code", dict := none, data := .fields #[.str (Str.ofString "_translate") 553, .str (Str.ofString "_translate") 554, .str (Str.ofString "/claim/cut.py") 555, .int 52 0, .int 3 0, .int 0 0, .int 0 0, .int 3 0, .ref 89, .bool true, .int 276 0, .ref 90, .none, .ref 91, .ref 92, .ref 93, .int 569 0, .int 52 0, .str (Str.ofString "/claim/cut.py") 570], slots := #[] }
theorem code94_at (w : World) : (hd.heap_1 w.params).lookup 94 = some codeO94 := by kernel_rfl
theorem code94 {w : World} {h : Heap} (X : (hd.heap_1 w.params).In h) : CodeHd h 94 90 :=
  ⟨codeO94, _, _, _, _, _, _, _, _, X _ _ (code94_at w), rfl, rfl, rfl, rfl, rfl, rfl, rfl, rfl, by decide⟩
end Mine
end
section
open PySem PySem.W PyProof.Rows PySem.Spec PySem.Calls
set_option maxRecDepth 100000
namespace Mine
local macro_rules | `(tactic| k_updF) => `(tactic| first | (refine' UpdF.head ?a; (case a => assumption)) | (refine' UpdF.tail ?a ?b; (case a => k_ne); (case b => k_updF)))
theorem rows_Trn : True := by
  k_with_none
  (k_with "RStep" => refine Hold.out ?_)
  (k_with "eval GeneratorExp" => refine Hold.out ?_)
  (k_with "call builtin:str.replace" => (refine' replaceNo (by k_dflt (decide +kernel)) ?_))
  (k_with "call builtin:re.Pattern.sub" => (k_here; k_dflt (refine' subK (k := 40) (by k_asm) (by k_asm) (by k_asm) (by k_mem) (by assumption) (by decide) (by (unfold NoHit; kernel_rfl)) (by decide +kernel) (by decide +kernel) (by decide +kernel) (by decide +kernel) ?_); intro h' tk' t' F' N'))
  (k_with "getMethod ref" => (k_here; (with_reducible show wpAny _ _ (getMethod (Value.ref 69) _ _) _ _ _); (refine method_sub (by k_in) ?_)))
  (k_with "eval Lambda" => (k_here; k_dflt (refine' lamK (c := 94) (P := 90) (by k_asm) (by k_asm) (by k_asm) (by exact code94 (by k_asm)) (by exact rfl) (by k_updF) (by assumption) (by rfl) (by rfl) ?_); intro f' o' h' tk' ps' ht' ho' F' N' l1; (try dsimp only at N'); (try k_lt l1)))
  (k_with "call builtin:str.join" => (k_here; k_dflt (refine' joinK (by k_asm) (by k_asm) (by assumption) (by assumption) (by assumption) (by assumption) (fun j => (["0", "9"] : List Str).getD j "") (by exact fun _ _ e => e) (by exact (by decide +kernel : JoinOk "-" ((List.range 2).map fun j => (["0", "9"] : List Str).getD j "") = true)) (by exact (by decide +kernel : Txt.join "-" ((List.range 2).map fun j => (["0", "9"] : List Str).getD j "") = "0-9")) ?_ (by size_fits)); intro s' t' F' N' G' ho'))
  (k_with "UnrEnd" => (k_dflt (refine' UnrEnd_head (by k_asm) (by k_asm) (by (simp only [AllLt]; repeat' (first | assumption | omega | refine And.intro ?_ ?_))) ?_)))
  (k_with "subscriptTail Name Name ref int" => (k_here; k_dflt (refine' item_lst1 (by k_asm) (by k_mem) (by rfl) (by exact rfl) ?_)))
  (k_with "subscriptTail Name BinOp ref int" => (k_here; k_dflt (refine' item_lst0 (by k_asm) (by k_mem) (by rfl) (by exact rfl) ?_)))
  (k_with "WhlRest" => ((with_reducible show WhlRest _ _ _ _ _ _ _ _ _ 0 _); refine Hold.out ?_))
  (k_with "WhlIf" => (first | (refine WhlIf.yes (by (first | decide | (simp only [decide_eq_true_eq]; omega))) ?_) | (refine WhlIf.no (by (first | decide | (simp only [decide_eq_false_iff_not]; omega))) ?_)))
  (k_with "exec While Constant" => (k_here; k_dflt (refine whl_start 5 ?_)))
  (k_with "exec While BoolOp" => (k_here; k_dflt (refine whl_start 5 ?_)))
  (k_with "call builtin:str.find" => (k_here; (refine' findE (by first | assumption | k_dflt (decide +kernel)) ?_)))
  (k_with "compareOp NotIn str str" => (k_here; (first | (refine' notInE (b := true) (by k_dflt (decide +kernel)) ?_) | (refine' notInE (b := false) (by k_dflt (decide +kernel)) ?_)); (try dsimp only [Bool.not_true, Bool.not_false])))
  (k_with "Eq some" => exact News.get (by k_asm) (by k_mem))
  (k_with "exec While Compare" => (k_here; k_dflt (refine whl_start 2 ?_)))
  (k_with "subscriptTail Name Slice str ref" => (k_here; (first | (refine' sliceE_ns (s := ⟨_, _, _, _, _⟩) (by first | kxw_text | assumption) (by k_asm) (by k_asm) (by first | decide | (rw [sizeLine_eq]; omega)) ?_) | (refine' sliceE_sn (s := ⟨_, _, _, _, _⟩) (by first | kxw_text | assumption) (by k_asm) (by k_asm) (by first | decide | (rw [sizeLine_eq]; omega)) ?_) | (refine' sliceE_ss (s := ⟨_, _, _, _, _⟩) (by first | kxw_text | assumption) (by k_asm) (by k_asm) (by first | decide | (rw [sizeLine_eq]; omega)) ?_)); intro h' t' k' F' N'))
  (k_with "subscriptTail Name Constant str int" => (k_here; (refine' itemM (by first | kxw_text | assumption) (by first | decide | (simp [fitsSsize]; omega)) (by first | decide | omega) (by first | decide | omega) ?_)))
  (k_with "subscriptTail Name Name str int" => (k_here; (refine' itemM (by first | kxw_text | assumption) (by first | decide | (simp [fitsSsize]; omega)) (by first | decide | omega) (by first | decide | omega) ?_)))
  (k_with "And" => (refine ⟨News.get (by k_asm) (by k_mem), ?_⟩; try dsimp only [List.nil_append, List.cons_append]))
  (k_with "callWith ref" => (k_here; (refine' callWith_bm (by k_asm) (by k_mem) ?_)))
  (k_with "call ref" => (k_here; (with_reducible show wpAny _ _ (call (Value.ref 88) _) _ _ _); (refine' con_useN (by k_asm) (by k_asm) (by k_asm) (by k_asm) (by k_asm) (by first | exact rfl | assumption) (by ktr_room) (by ktr_units) (esc_con _ _ _ _ _ _ _ _) ?_); intro r' h' tk' tl' hR' F' N'; (obtain ⟨t', hr', ht'⟩ := hR'; subst hr'; subst ht'); (try simp only [List.nil_append] at N'); (try dsimp only); (try k_fold)))
  (k_with "call ref" => (k_here; (try dsimp only [List.nil_append, List.cons_append]); (refine' call_bm_K (by k_asm) (by k_asm) (by k_mem) (by k_upd) ?_ (by first | size_fits | (simp only [List.size_toArray]; rw [sizeLine_eq]; omega))); intro h' F' N'))
  (k_with "getAttr ref" => (k_here; (with_reducible show wpAny _ _ (getAttr (Value.ref _) (Str.ofString "append") true) _ _ _); (refine' getAttr_append_K (by k_asm) (by k_asm) (by k_mem) (by rfl) ?_); intro b' h' tk' F' N' l1'; (try k_lt l1')))
  (k_with "eval Constant int" => (refine m_int ?_))
  (k_with "eval Constant str" => (refine m_str ?_))
  (k_with "binaryOp Add int int" => (refine m_add ?_))
  (k_with "binaryOp Sub int int" => (refine m_sub ?_))
  (k_with "inplaceOp Add int int" => (refine m_iadd ?_))
  (k_with "unaryOp USub int" => (refine m_neg ?_))
  (k_with "execs nil" => (k_here; (try dsimp only); refine wpAny_execs_nil ?_))
  (k_with "execs cons" => (k_here; (try dsimp only); (try (refine gen_tok ?_; intro _)); refine execs_let ?_; intro _))
  exact True.intro
set_option maxHeartbeats 8000000 in
theorem trn_con (w : World) (p : Program) (loose : List Str) (mean : ExcName → Option Value) (mg mb : Str → Option Value) (news : List (Addr × Obj)) (x : Str) (t t2 : Tok) (st : Addr) (ps : Array Value) (hps : TriplesOk ps.toList) (h90 : ∀ p ∈ news, p.1 ≠ 90) (k : Nat) (hk6 : k ≤ 6) (hlen : x.length = 2 + 5 * k) (p0 : Txt.item x 0 = "*") (p1 : Txt.item x (0+1) = ".") (digs : ∀ q : Nat, q < k → DigAt x (2 + 5 * (q:Int))) :
   ConT w p loose mean mg mb 95 [.str x t, .ref st, .str (Str.ofString ".") t2] 3 90 ps news (fun r tl => ∃ a vs c, r = .ref a ∧ tl = [(a, lstN vs c)] ∧ OutT st k vs) := by
  unfold ConT
  k_fill
  intro dp un gd cn cs a ccd cl outer A₀ base h₀ L m s Q E B F X N T hk G hd hu hret
  refine wpAny_call ?_
  first | k_dflt cell_enter |   (refine' code_defC ?k1 ?k2 ?k3 ?k4 ?k5 ?kA ?kF ?kK ?k6 ?k7 ?k8 ?k9 ?kB ?kD ?_ ?c2 ?c3 ?c4; (case kA => exact rfl); (case kF => exact rfl); (case kK => first | exact rfl | assumption); (case k1 => k_asm); (case k2 => k_asm); (case k3 => k_asm); (case k4 => k_asm); (case k5 => k_asm); (case k6 => k_is); (case k7 => k_is); (case k8 => ktr_room); (case k9 => exact BindsTo.of_eq rfl); (case kB => exact rfl); (case kD => decide +kernel); (case c2 => exact rfl); (case c3 => exact rfl); (case c4 => exact rfl); k_whole; intro g' L' h' tk' cells' FG' F' N' Y' B' X' T' l1; (try k_lt l1); k_cells Y'; (try simp only [List.cons_append, List.nil_append] at N'); (try dsimp only); (try k_lift B'); (try k_fold))
  k_steps
  refine Hold.mk ?_
  have hG : AllBare s.gens := G
  refine whl_res (n₀ := k) "i" ["c", "j", "stuff", "chunks", "k", "chunk"] (fun n i vs => ∃ q : Nat, q + n = k ∧ i = 2 + 5 * (q:Int) ∧ OutT st q vs) (by k_asm) (by k_asm) hG hps rfl ⟨0, by omega, by omega, _, [], rfl, .nil⟩ ?_ (by first | passes_own | with_unfolding_all passes_own)
  rintro n i ti u vs c₁ ps₁ s₁ ho G₁ ⟨q, hq, hi, hO⟩ ht₁ F₁ N₁
  have hvl := hO.len
  cases n with
  | zero =>
    k_steps
    · refine hret _ _ [(_, lstN vs c₁)] ps₁ ho G₁ ht₁ (by k_asm) (cb_drop (by assumption) (fun p hp => by
        rcases List.mem_cons.mp hp with rfl | hp
        · k_mem
        · rcases List.mem_cons.mp hp with rfl | hp
          · k_mem
          · repeat (first | exact hp | refine List.mem_cons_of_mem _ ?_))) ⟨_, vs, c₁, rfl, rfl, ?_⟩
      have : q = k := by omega
      exact this ▸ hO
    · exfalso; omega
  | succ n =>
    obtain ⟨a0, a1, a2, a3, a4, s1, f1, s2, f2, s3⟩ := digs q (by omega)
    rw [← hi] at a0 a1 a2 a3 a4 s1 f1 s2 f2 s3
    k_steps
    refine Hold.mk ?_
    refine' genK (c := 94) (P := 90) (Fv := fun i v => ∃ u, v = .str ((["0", "9"] : List Str).getD i "") u) (vs := [.str "0" _, .str "9" _]) ?F ?N ?T ?C ?cd ?U ?t ?G ?D ?DP ?hh ?hco ?hcl ?hcell ?h0 ?hx ?hk ?room ?elt ?it ?_ ?hs
    case cd => exact rfl
    case F => k_asm
    case N => k_asm
    case T => k_asm
    case C => exact code94 (by k_asm)
    case U => k_updF
    case t => assumption
    case G => assumption
    case D => repeat (first | exact List.mem_cons_self | refine List.mem_cons_of_mem _ ?_)
    case DP => (show (_ : Nat) ≠ _; omega)
    case hh => rfl
    case hco => rfl
    case hcl => rfl
    case hcell => decide
    case h0 => rfl
    case hx => rfl
    case hk => rfl
    case room => ktr_room
    case hs => (intro _; rfl)
    case elt =>
      intro C code A' E' i v t m₂ hA hv hn hm
      have hv2 : ∃ y u, v = .str y u ∧ y = (["0", "9"] : List Str).getD i "" ∧ (y = "0" ∨ y = "9") := by
        match i, hv with
        | 0, hv => cases hv; exact ⟨_, _, rfl, rfl, .inl rfl⟩
        | 1, hv => cases hv; exact ⟨_, _, rfl, rfl, .inr rfl⟩
        | (i + 2), hv => cases hv
      obtain ⟨y, u, rfl, hy, hy2⟩ := hv2
      rw [← hy]
      clear hy
      rcases hy2 with rfl | rfl <;> (
        walk1; walk1
        refine wpAny_Name (wpAny_loadName_local rfl rfl hn hm ?_) (by decide)
        k_steps
        exact ⟨_, _, rfl, fun _ _ e => e⟩)
    case it => (k_steps)
    intro b' K' s' ps' ht' F' N' G' ho' X' hLK' hK'
    (try dsimp only at N')
    k_steps
    refine Hold.mk ?_
    refine' RStep.intro ?F ?N ?hb ?hl ?hP ?sub ?ho ?G ?ht ?hy ?hm (Nat.lt_succ_self _) ?hJ
    case F => k_asm
    case N => k_asm
    case hb => k_mem
    case hl => k_mem
    case hP => k_mem
    case sub => exact fun p hp => by repeat (first | exact hp | refine List.mem_cons_of_mem _ ?_)
    case ho => repeat (first | exact rfl | assumption | (refine Eq.trans (by assumption) ?_))
    case G => assumption
    case ht => assumption
    case hy => rfl
    case hm =>
      intro x h1 h2
      have n1 : x ≠ "c" := fun e => by subst e; revert h2; decide
      have n2 : x ≠ "j" := fun e => by subst e; revert h2; decide
      have n3 : x ≠ "stuff" := fun e => by subst e; revert h2; decide
      have n4 : x ≠ "chunks" := fun e => by subst e; revert h2; decide
      have n5 : x ≠ "k" := fun e => by subst e; revert h2; decide
      have n6 : x ≠ "chunk" := fun e => by subst e; revert h2; decide
      simp only [h1, h2, n1, n2, n3, n4, n5, n6, if_false, Bool.false_eq_true]
    case hJ =>
      refine ⟨q + 1, by omega, by omega, ?_⟩
      rw [List.push_toArray]
      exact hO.snoc (by decide +kernel)
theorem rowsoff_Trn : True := by
  k_with_none
  exact True.intro
end Mine
end
section
open PySem PySem.W PyProof.Rows PySem.Spec PySem.Calls
set_option maxRecDepth 100000
namespace Mine
local macro_rules | `(tactic| k_updF) => `(tactic| first | (refine' UpdF.head ?a; (case a => assumption)) | (refine' UpdF.tail ?a ?b; (case a => k_ne); (case b => k_updF)))
theorem rows_Trn1 : True := by
  k_with_none
  (k_with "exec While Compare" => (k_here; k_dflt (refine whl_start 100 ?_)))
  (k_with "call builtin:str.replace" => (refine' replaceNo (by k_dflt (decide +kernel)) ?_))
  (k_with "call builtin:re.Pattern.sub" => (k_here; k_dflt (refine' subK (k := 40) (by k_asm) (by k_asm) (by k_asm) (by k_mem) (by assumption) (by decide) (by (unfold NoHit; kernel_rfl)) (by decide +kernel) (by decide +kernel) (by decide +kernel) (by decide +kernel) ?_); intro h' tk' t' F' N'))
  (k_with "getMethod ref" => (k_here; (with_reducible show wpAny _ _ (getMethod (Value.ref 69) _ _) _ _ _); (refine method_sub (by k_in) ?_)))
  (k_with "eval Lambda" => (k_here; k_dflt (refine' lamK (c := 94) (P := 90) (by k_asm) (by k_asm) (by k_asm) (by exact code94 (by k_asm)) (by exact rfl) (by k_updF) (by assumption) (by rfl) (by rfl) ?_); intro f' o' h' tk' ps' ht' ho' F' N' l1; (try dsimp only at N'); (try k_lt l1)))
  (k_with "UnrEnd" => (k_dflt (refine' UnrEnd_head (by k_asm) (by k_asm) (by (simp only [AllLt]; repeat' (first | assumption | omega | refine And.intro ?_ ?_))) ?_)))
  (k_with "subscriptTail Name Name ref int" => (k_here; k_dflt (refine' item_lst1 (by k_asm) (by k_mem) (by rfl) (by exact rfl) ?_)))
  (k_with "subscriptTail Name BinOp ref int" => (k_here; k_dflt (refine' item_lst0 (by k_asm) (by k_mem) (by rfl) (by exact rfl) ?_)))
  (k_with "WhlIf" => (first | (refine WhlIf.yes (by (first | decide | (simp only [decide_eq_true_eq]; omega))) ?_) | (refine WhlIf.no (by (first | decide | (simp only [decide_eq_false_iff_not]; omega))) ?_)))
  (k_with "exec While Constant" => (k_here; k_dflt (refine whl_start 5 ?_)))
  (k_with "exec While BoolOp" => (k_here; k_dflt (refine whl_start 5 ?_)))
  (k_with "call builtin:str.find" => (k_here; (refine' findE (by first | assumption | k_dflt (decide +kernel)) ?_)))
  (k_with "compareOp NotIn str str" => (k_here; (first | (refine' notInE (b := true) (by k_dflt (decide +kernel)) ?_) | (refine' notInE (b := false) (by k_dflt (decide +kernel)) ?_)); (try dsimp only [Bool.not_true, Bool.not_false])))
  (k_with "Eq some" => exact News.get (by k_asm) (by k_mem))
  (k_with "subscriptTail Name Slice str ref" => (k_here; (first | (refine' sliceE_ns (s := ⟨_, _, _, _, _⟩) (by first | kxw_text | assumption) (by k_asm) (by k_asm) (by first | decide | (rw [sizeLine_eq]; omega)) ?_) | (refine' sliceE_sn (s := ⟨_, _, _, _, _⟩) (by first | kxw_text | assumption) (by k_asm) (by k_asm) (by first | decide | (rw [sizeLine_eq]; omega)) ?_) | (refine' sliceE_ss (s := ⟨_, _, _, _, _⟩) (by first | kxw_text | assumption) (by k_asm) (by k_asm) (by first | decide | (rw [sizeLine_eq]; omega)) ?_)); intro h' t' k' F' N'))
  (k_with "subscriptTail Name Constant str int" => (k_here; (refine' itemM (by first | kxw_text | assumption) (by first | decide | (simp [fitsSsize]; omega)) (by first | decide | omega) (by first | decide | omega) ?_)))
  (k_with "subscriptTail Name Name str int" => (k_here; (refine' itemM (by first | kxw_text | assumption) (by first | decide | (simp [fitsSsize]; omega)) (by first | decide | omega) (by first | decide | omega) ?_)))
  (k_with "And" => (refine ⟨News.get (by k_asm) (by k_mem), ?_⟩; try dsimp only [List.nil_append, List.cons_append]))
  (k_with "callWith ref" => (k_here; (refine' callWith_bm (by k_asm) (by k_mem) ?_)))
  (k_with "call ref" => (k_here; (with_reducible show wpAny _ _ (call (Value.ref 88) _) _ _ _); (refine' con_useN (by k_asm) (by k_asm) (by k_asm) (by k_asm) (by k_asm) (by first | exact rfl | assumption) (by ktr_room) (by ktr_units) (esc_con _ _ _ _ _ _ _ _) ?_); intro r' h' tk' tl' hR' F' N'; (obtain ⟨t', hr', ht'⟩ := hR'; subst hr'; subst ht'); (try simp only [List.nil_append] at N'); (try dsimp only); (try k_fold)))
  (k_with "call ref" => (k_here; (try dsimp only [List.nil_append, List.cons_append]); (refine' call_bm_K (by k_asm) (by k_asm) (by k_mem) (by k_upd) ?_ (by first | size_fits | (simp only [List.size_toArray]; rw [sizeLine_eq]; omega))); intro h' F' N'))
  (k_with "getAttr ref" => (k_here; (with_reducible show wpAny _ _ (getAttr (Value.ref _) (Str.ofString "append") true) _ _ _); (refine' getAttr_append_K (by k_asm) (by k_asm) (by k_mem) (by rfl) ?_); intro b' h' tk' F' N' l1'; (try k_lt l1')))
  (k_with "eval Constant int" => (refine m_int ?_))
  (k_with "eval Constant str" => (refine m_str ?_))
  (k_with "binaryOp Add int int" => (refine m_add ?_))
  (k_with "binaryOp Sub int int" => (refine m_sub ?_))
  (k_with "inplaceOp Add int int" => (refine m_iadd ?_))
  (k_with "unaryOp USub int" => (refine m_neg ?_))
  (k_with "execs nil" => (k_here; (try dsimp only); refine wpAny_execs_nil ?_))
  (k_with "execs cons" => (k_here; (try dsimp only); (try (refine gen_tok ?_; intro _)); refine execs_let ?_; intro _))
  exact True.intro
theorem one_eq {a : Addr} {y y' : Str} {t : Tok} {c : Nat} (e : y = y') : [(a, lstN [.str y t] c)] = [(a, lstN [.str y' t] c)] := by rw [e]
theorem three_eq {a st : Addr} {y y' z z' : Str} {t u : Tok} {c : Nat} (e : y = y') (e2 : z = z') : [(a, lstN [.str y t, .ref st, .str z u] c)] = [(a, lstN [.str y' t, .ref st, .str z' u] c)] := by rw [e, e2]
set_option maxHeartbeats 4000000 in
theorem trn1_con (w : World) (p : Program) (loose : List Str) (mean : ExcName → Option Value) (mg mb : Str → Option Value) (news : List (Addr × Obj)) (t t2 : Tok) (st : Addr) (ps : Array Value) (hps : TriplesOk ps.toList) (h90 : ∀ p ∈ news, p.1 ≠ 90) :
   ConT w p loose mean mg mb 95 [.str (Str.ofString "[!.]") t, .ref st, .str (Str.ofString ".") t2] 3 90 ps news (fun r tl => ∃ a c t', r = .ref a ∧ tl = [(a, lstN [.str (Str.ofString "[^.]") t'] c)]) := by
  unfold ConT
  k_fill
  intro dp un gd cn cs a ccd cl outer A₀ base h₀ L m s Q E B F X N T hk G hd hu hret
  refine wpAny_call ?_
  first | k_dflt cell_enter |   (refine' code_defC ?k1 ?k2 ?k3 ?k4 ?k5 ?kA ?kF ?kK ?k6 ?k7 ?k8 ?k9 ?kB ?kD ?_ ?c2 ?c3 ?c4; (case kA => exact rfl); (case kF => exact rfl); (case kK => first | exact rfl | assumption); (case k1 => k_asm); (case k2 => k_asm); (case k3 => k_asm); (case k4 => k_asm); (case k5 => k_asm); (case k6 => k_is); (case k7 => k_is); (case k8 => ktr_room); (case k9 => exact BindsTo.of_eq rfl); (case kB => exact rfl); (case kD => decide +kernel); (case c2 => exact rfl); (case c3 => exact rfl); (case c4 => exact rfl); k_whole; intro g' L' h' tk' cells' FG' F' N' Y' B' X' T' l1; (try k_lt l1); k_cells Y'; (try simp only [List.cons_append, List.nil_append] at N'); (try dsimp only); (try k_lift B'); (try k_fold))
  k_steps
  refine' hret _ _ [(_, lstN [.str _ _] _)] _ rfl G ?ht ?F ?N ?R
  case F => k_asm
  case N =>
    refine' cb_drop (by assumption) (fun p hp => ?_)
    rcases List.mem_cons.mp hp with rfl | hp
    · repeat (first | exact List.mem_cons_self | refine List.mem_cons_of_mem _ ?_)
    · rcases List.mem_cons.mp hp with rfl | hp
      · repeat (first | exact List.mem_cons_self | refine List.mem_cons_of_mem _ ?_)
      · repeat (first | exact hp | refine List.mem_cons_of_mem _ ?_)
  case ht => assumption
  case R => exact ⟨_, _, _, rfl, one_eq (by decide +kernel)⟩
theorem rowsoff_Trn1 : True := by
  k_with_none
  exact True.intro
end Mine
end
section
open PySem PySem.W PyProof.Rows PySem.Spec PySem.Calls
set_option maxRecDepth 100000
namespace Mine
local macro_rules | `(tactic| k_updF) => `(tactic| first | (refine' UpdF.head ?a; (case a => assumption)) | (refine' UpdF.tail ?a ?b; (case a => k_ne); (case b => k_updF)))
theorem rows_Trn2 : True := by
  k_with_none
  (k_with "exec While Compare" => (k_here; k_dflt (refine whl_start 100 ?_)))
  (k_with "call builtin:str.replace" => (refine' replaceNo (by k_dflt (decide +kernel)) ?_))
  (k_with "call builtin:re.Pattern.sub" => (k_here; k_dflt (refine' subK (k := 40) (by k_asm) (by k_asm) (by k_asm) (by k_mem) (by assumption) (by decide) (by (unfold NoHit; kernel_rfl)) (by decide +kernel) (by decide +kernel) (by decide +kernel) (by decide +kernel) ?_); intro h' tk' t' F' N'))
  (k_with "getMethod ref" => (k_here; (with_reducible show wpAny _ _ (getMethod (Value.ref 69) _ _) _ _ _); (refine method_sub (by k_in) ?_)))
  (k_with "eval Lambda" => (k_here; k_dflt (refine' lamK (c := 94) (P := 90) (by k_asm) (by k_asm) (by k_asm) (by exact code94 (by k_asm)) (by exact rfl) (by k_updF) (by assumption) (by rfl) (by rfl) ?_); intro f' o' h' tk' ps' ht' ho' F' N' l1; (try dsimp only at N'); (try k_lt l1)))
  (k_with "UnrEnd" => (k_dflt (refine' UnrEnd_head (by k_asm) (by k_asm) (by (simp only [AllLt]; repeat' (first | assumption | omega | refine And.intro ?_ ?_))) ?_)))
  (k_with "subscriptTail Name Name ref int" => (k_here; k_dflt (refine' item_lst1 (by k_asm) (by k_mem) (by rfl) (by exact rfl) ?_)))
  (k_with "subscriptTail Name BinOp ref int" => (k_here; k_dflt (refine' item_lst0 (by k_asm) (by k_mem) (by rfl) (by exact rfl) ?_)))
  (k_with "WhlIf" => (first | (refine WhlIf.yes (by (first | decide | (simp only [decide_eq_true_eq]; omega))) ?_) | (refine WhlIf.no (by (first | decide | (simp only [decide_eq_false_iff_not]; omega))) ?_)))
  (k_with "exec While Constant" => (k_here; k_dflt (refine whl_start 5 ?_)))
  (k_with "exec While BoolOp" => (k_here; k_dflt (refine whl_start 5 ?_)))
  (k_with "call builtin:str.find" => (k_here; (refine' findE (by first | assumption | k_dflt (decide +kernel)) ?_)))
  (k_with "compareOp NotIn str str" => (k_here; (first | (refine' notInE (b := true) (by k_dflt (decide +kernel)) ?_) | (refine' notInE (b := false) (by k_dflt (decide +kernel)) ?_)); (try dsimp only [Bool.not_true, Bool.not_false])))
  (k_with "Eq some" => exact News.get (by k_asm) (by k_mem))
  (k_with "subscriptTail Name Slice str ref" => (k_here; (first | (refine' sliceE_ns (s := ⟨_, _, _, _, _⟩) (by first | kxw_text | assumption) (by k_asm) (by k_asm) (by first | decide | (rw [sizeLine_eq]; omega)) ?_) | (refine' sliceE_sn (s := ⟨_, _, _, _, _⟩) (by first | kxw_text | assumption) (by k_asm) (by k_asm) (by first | decide | (rw [sizeLine_eq]; omega)) ?_) | (refine' sliceE_ss (s := ⟨_, _, _, _, _⟩) (by first | kxw_text | assumption) (by k_asm) (by k_asm) (by first | decide | (rw [sizeLine_eq]; omega)) ?_)); intro h' t' k' F' N'))
  (k_with "subscriptTail Name Constant str int" => (k_here; (refine' itemM (by first | kxw_text | assumption) (by first | decide | (simp [fitsSsize]; omega)) (by first | decide | omega) (by first | decide | omega) ?_)))
  (k_with "subscriptTail Name Name str int" => (k_here; (refine' itemM (by first | kxw_text | assumption) (by first | decide | (simp [fitsSsize]; omega)) (by first | decide | omega) (by first | decide | omega) ?_)))
  (k_with "And" => (refine ⟨News.get (by k_asm) (by k_mem), ?_⟩; try dsimp only [List.nil_append, List.cons_append]))
  (k_with "callWith ref" => (k_here; (refine' callWith_bm (by k_asm) (by k_mem) ?_)))
  (k_with "call ref" => (k_here; (with_reducible show wpAny _ _ (call (Value.ref 88) _) _ _ _); (refine' con_useN (by k_asm) (by k_asm) (by k_asm) (by k_asm) (by k_asm) (by first | exact rfl | assumption) (by ktr_room) (by ktr_units) (esc_con _ _ _ _ _ _ _ _) ?_); intro r' h' tk' tl' hR' F' N'; (obtain ⟨t', hr', ht'⟩ := hR'; subst hr'; subst ht'); (try simp only [List.nil_append] at N'); (try dsimp only); (try k_fold)))
  (k_with "call ref" => (k_here; (try dsimp only [List.nil_append, List.cons_append]); (refine' call_bm_K (by k_asm) (by k_asm) (by k_mem) (by k_upd) ?_ (by first | size_fits | (simp only [List.size_toArray]; rw [sizeLine_eq]; omega))); intro h' F' N'))
  (k_with "getAttr ref" => (k_here; (with_reducible show wpAny _ _ (getAttr (Value.ref _) (Str.ofString "append") true) _ _ _); (refine' getAttr_append_K (by k_asm) (by k_asm) (by k_mem) (by rfl) ?_); intro b' h' tk' F' N' l1'; (try k_lt l1')))
  (k_with "eval Constant int" => (refine m_int ?_))
  (k_with "eval Constant str" => (refine m_str ?_))
  (k_with "binaryOp Add int int" => (refine m_add ?_))
  (k_with "binaryOp Sub int int" => (refine m_sub ?_))
  (k_with "inplaceOp Add int int" => (refine m_iadd ?_))
  (k_with "unaryOp USub int" => (refine m_neg ?_))
  (k_with "execs nil" => (k_here; (try dsimp only); refine wpAny_execs_nil ?_))
  (k_with "execs cons" => (k_here; (try dsimp only); (try (refine gen_tok ?_; intro _)); refine execs_let ?_; intro _))
  exact True.intro
theorem truthy_lst1 {prog : Program} {w : World} {A : Around} {E : Value → Shared → Prop} {s : Shared} {h₀ : Heap} {L a : Addr} {news : List (Addr × Obj)} {xs : Array Value} {n : Nat} {Q : Bool → Shared → Prop} {v : Value} (N : News h₀ L s.heap news) (hm : (a, W.listOf xs n) ∈ news) (hx : xs.toList = [v])
    (h : Q true { s with toks := s.toks + 1 + 1 }) : wpAny (model prog w) A (truthy (.ref a)) Q E s := by
  have e : xs = #[v] := by rw [← Array.toList_inj]; exact hx
  subst e
  exact wpAny_truthy_list ⟨_, N.get hm, rfl, _, rfl⟩ (by simp) h
theorem item_lstN1 {prog : Program} {w : World} {A : Around} {E : Value → Shared → Prop} {s : Shared} {h₀ : Heap} {L a : Addr} {news : List (Addr × Obj)} {xs : Array Value} {n : Nat} {Q : Value → Shared → Prop} {value slice : Expr} {u : Tok} {v : Value} (N : News h₀ L s.heap news) (hm : (a, W.listOf xs n) ∈ news) (hx : xs.toList = [v]) (h : Q v s)
    (hs : subscripted slice false (.ref a) (.int (-1) u) = operate [.ref a, .int (-1) u] (getItem (.ref a) (.int (-1) u)) := by with_unfolding_all rfl) :
    wpAny (model prog w) A (subscriptTail value slice (.ref a) (.int (-1) u)) Q E s := by
  have e : xs = #[v] := by rw [← Array.toList_inj]; exact hx
  subst e
  have hl : s.heap.IsList a #[v] := ⟨_, N.get hm, rfl, _, rfl⟩
  exact tail_any hl.typeIs slot_list_getitem.lookup (wpAny_getItem_list_neg hl (by decide) (by simp) (by decide) rfl h) hs
theorem rows_Trn2_1 : True := by
  k_with_none
  (k_with "compareOp IsNot str ref" => (k_here; refine wpAny_isNot_other rfl (fun e => by cases e) ?_))
  (k_with "subscriptTail Name UnaryOp ref int" => (k_here; k_dflt (refine' item_lstN1 (by k_asm) (by k_mem) (by exact rfl) ?_)))
  (k_with "truthy ref" => (k_here; k_dflt (refine' truthy_lst1 (by k_asm) (by k_mem) (by exact rfl) ?_)))
  (k_with "exec While Compare" => (k_here; k_dflt (refine whl_start 100 ?_)))
  (k_with "call builtin:str.replace" => (refine' replaceNo (by k_dflt (decide +kernel)) ?_))
  (k_with "call builtin:re.Pattern.sub" => (k_here; k_dflt (refine' subK (k := 40) (by k_asm) (by k_asm) (by k_asm) (by k_mem) (by assumption) (by decide) (by (unfold NoHit; kernel_rfl)) (by decide +kernel) (by decide +kernel) (by decide +kernel) (by decide +kernel) ?_); intro h' tk' t' F' N'))
  (k_with "getMethod ref" => (k_here; (with_reducible show wpAny _ _ (getMethod (Value.ref 69) _ _) _ _ _); (refine method_sub (by k_in) ?_)))
  (k_with "eval Lambda" => (k_here; k_dflt (refine' lamK (c := 94) (P := 90) (by k_asm) (by k_asm) (by k_asm) (by exact code94 (by k_asm)) (by exact rfl) (by k_updF) (by assumption) (by rfl) (by rfl) ?_); intro f' o' h' tk' ps' ht' ho' F' N' l1; (try dsimp only at N'); (try k_lt l1)))
  (k_with "UnrEnd" => (k_dflt (refine' UnrEnd_head (by k_asm) (by k_asm) (by (simp only [AllLt]; repeat' (first | assumption | omega | refine And.intro ?_ ?_))) ?_)))
  (k_with "subscriptTail Name Name ref int" => (k_here; k_dflt (refine' item_lst1 (by k_asm) (by k_mem) (by rfl) (by exact rfl) ?_)))
  (k_with "subscriptTail Name BinOp ref int" => (k_here; k_dflt (refine' item_lst0 (by k_asm) (by k_mem) (by rfl) (by exact rfl) ?_)))
  (k_with "WhlIf" => (first | (refine WhlIf.yes (by (first | decide | (simp only [decide_eq_true_eq]; omega))) ?_) | (refine WhlIf.no (by (first | decide | (simp only [decide_eq_false_iff_not]; omega))) ?_)))
  (k_with "exec While Constant" => (k_here; k_dflt (refine whl_start 5 ?_)))
  (k_with "exec While BoolOp" => (k_here; k_dflt (refine whl_start 5 ?_)))
  (k_with "call builtin:str.find" => (k_here; (refine' findE (by first | assumption | k_dflt (decide +kernel)) ?_)))
  (k_with "compareOp NotIn str str" => (k_here; (first | (refine' notInE (b := true) (by k_dflt (decide +kernel)) ?_) | (refine' notInE (b := false) (by k_dflt (decide +kernel)) ?_)); (try dsimp only [Bool.not_true, Bool.not_false])))
  (k_with "Eq some" => exact News.get (by k_asm) (by k_mem))
  (k_with "subscriptTail Name Slice str ref" => (k_here; (first | (refine' sliceE_ns (s := ⟨_, _, _, _, _⟩) (by first | kxw_text | assumption) (by k_asm) (by k_asm) (by first | decide | (rw [sizeLine_eq]; omega)) ?_) | (refine' sliceE_sn (s := ⟨_, _, _, _, _⟩) (by first | kxw_text | assumption) (by k_asm) (by k_asm) (by first | decide | (rw [sizeLine_eq]; omega)) ?_) | (refine' sliceE_ss (s := ⟨_, _, _, _, _⟩) (by first | kxw_text | assumption) (by k_asm) (by k_asm) (by first | decide | (rw [sizeLine_eq]; omega)) ?_)); intro h' t' k' F' N'))
  (k_with "subscriptTail Name Constant str int" => (k_here; (refine' itemM (by first | kxw_text | assumption) (by first | decide | (simp [fitsSsize]; omega)) (by first | decide | omega) (by first | decide | omega) ?_)))
  (k_with "subscriptTail Name Name str int" => (k_here; (refine' itemM (by first | kxw_text | assumption) (by first | decide | (simp [fitsSsize]; omega)) (by first | decide | omega) (by first | decide | omega) ?_)))
  (k_with "And" => (refine ⟨News.get (by k_asm) (by k_mem), ?_⟩; try dsimp only [List.nil_append, List.cons_append]))
  (k_with "callWith ref" => (k_here; (refine' callWith_bm (by k_asm) (by k_mem) ?_)))
  (k_with "call ref" => (k_here; (with_reducible show wpAny _ _ (call (Value.ref 88) _) _ _ _); (refine' con_useN (by k_asm) (by k_asm) (by k_asm) (by k_asm) (by k_asm) (by first | exact rfl | assumption) (by ktr_room) (by ktr_units) (esc_con _ _ _ _ _ _ _ _) ?_); intro r' h' tk' tl' hR' F' N'; (obtain ⟨t', hr', ht'⟩ := hR'; subst hr'; subst ht'); (try simp only [List.nil_append] at N'); (try dsimp only); (try k_fold)))
  (k_with "call ref" => (k_here; (try dsimp only [List.nil_append, List.cons_append]); (refine' call_bm_K (by k_asm) (by k_asm) (by k_mem) (by k_upd) ?_ (by first | size_fits | (simp only [List.size_toArray]; rw [sizeLine_eq]; omega))); intro h' F' N'))
  (k_with "getAttr ref" => (k_here; (with_reducible show wpAny _ _ (getAttr (Value.ref _) (Str.ofString "append") true) _ _ _); (refine' getAttr_append_K (by k_asm) (by k_asm) (by k_mem) (by rfl) ?_); intro b' h' tk' F' N' l1'; (try k_lt l1')))
  (k_with "eval Constant int" => (refine m_int ?_))
  (k_with "eval Constant str" => (refine m_str ?_))
  (k_with "binaryOp Add int int" => (refine m_add ?_))
  (k_with "binaryOp Sub int int" => (refine m_sub ?_))
  (k_with "inplaceOp Add int int" => (refine m_iadd ?_))
  (k_with "unaryOp USub int" => (refine m_neg ?_))
  (k_with "execs nil" => (k_here; (try dsimp only); refine wpAny_execs_nil ?_))
  (k_with "execs cons" => (k_here; (try dsimp only); (try (refine gen_tok ?_; intro _)); refine execs_let ?_; intro _))
  exact True.intro
set_option maxHeartbeats 4000000 in
theorem trn2_con (w : World) (p : Program) (loose : List Str) (mean : ExcName → Option Value) (mg mb : Str → Option Value) (news : List (Addr × Obj)) (t t2 : Tok) (st : Addr) (ps : Array Value) (hps : TriplesOk ps.toList) (h90 : ∀ p ∈ news, p.1 ≠ 90) :
   ConT w p loose mean mg mb 95 [.str (Str.ofString "[!.]*[!.]") t, .ref st, .str (Str.ofString ".") t2] 3 90 ps news (fun r tl => ∃ a c t1 t3, r = .ref a ∧ tl = [(a, lstN [.str (Str.ofString "[^.]") t1, .ref st, .str (Str.ofString "[^.]") t3] c)]) := by
  unfold ConT
  k_fill
  intro dp un gd cn cs a ccd cl outer A₀ base h₀ L m s Q E B F X N T hk G hd hu hret
  refine wpAny_call ?_
  first | k_dflt cell_enter |   (refine' code_defC ?k1 ?k2 ?k3 ?k4 ?k5 ?kA ?kF ?kK ?k6 ?k7 ?k8 ?k9 ?kB ?kD ?_ ?c2 ?c3 ?c4; (case kA => exact rfl); (case kF => exact rfl); (case kK => first | exact rfl | assumption); (case k1 => k_asm); (case k2 => k_asm); (case k3 => k_asm); (case k4 => k_asm); (case k5 => k_asm); (case k6 => k_is); (case k7 => k_is); (case k8 => ktr_room); (case k9 => exact BindsTo.of_eq rfl); (case kB => exact rfl); (case kD => decide +kernel); (case c2 => exact rfl); (case c3 => exact rfl); (case c4 => exact rfl); k_whole; intro g' L' h' tk' cells' FG' F' N' Y' B' X' T' l1; (try k_lt l1); k_cells Y'; (try simp only [List.cons_append, List.nil_append] at N'); (try dsimp only); (try k_lift B'); (try k_fold))
  k_steps
  refine' hret _ _ [(_, lstN [.str _ _, .ref _, .str _ _] _)] _ rfl G ?ht ?F ?N ?R
  case F => k_asm
  case N =>
    refine' cb_drop (by assumption) (fun p hp => ?_)
    rcases List.mem_cons.mp hp with rfl | hp
    · repeat (first | exact List.mem_cons_self | refine List.mem_cons_of_mem _ ?_)
    · rcases List.mem_cons.mp hp with rfl | hp
      · repeat (first | exact List.mem_cons_self | refine List.mem_cons_of_mem _ ?_)
      · repeat (first | exact hp | refine List.mem_cons_of_mem _ ?_)
  case ht => assumption
  case R => exact ⟨_, _, _, _, rfl, three_eq (by decide +kernel) (by decide +kernel)⟩
theorem rowsoff_Trn2 : True := by
  k_with_none
  exact True.intro
end Mine
end
section
open PySem PySem.W PyProof.Rows PySem.Spec PySem.Calls
set_option maxRecDepth 100000
namespace Mine
noncomputable abbrev ConG (w : World) (p : Program) (loose : List Str) (mean : ExcName → Option Value) (mg mb : Str → Option Value) (f : Addr) (vs : List Value) (d : Nat) (news : List (Addr × Obj)) (R : Value → List (Addr × Obj) → Prop) : Prop :=
  ∀ (dp un : Nat) (gd : Option (List Code)) (cn : Str) (cs : Scope) (a : Addr) (ccd : Value) (cl : List (Str × Addr)) (outer : List Env) (A₀ : Around) (base h₀ : Heap) (L : Addr) (m : Str → Option Value) (s : Shared) (Q E : Value → Shared → Prop),
    Below A₀ base outer h₀ → Fr h₀ L s.heap m → (hd.heap_1 w.params).In h₀ → News h₀ L s.heap news → Top p loose mean mg mb h₀ → cs.kind = .function → AllBare s.gens →
    dp + d < recursionLimit → un + 8 * d < cLine →
    (∀ r s' tl, s'.os = s.os → AllBare s'.gens → Fr h₀ L s'.heap m → News h₀ L s'.heap (tl ++ news) → R r tl → Q r s') →
    wpAny (model PySem.Challenge.rw_ik0051_01.row.prog w) (ktrTop dp un gd cn cs L a ccd cl outer) (call (.ref f) vs) Q E s
theorem conG_use {w : World} {p : Program} {loose : List Str} {mean : ExcName → Option Value} {mg mb : Str → Option Value} {f : Addr} {vs : List Value} {d : Nat} {news : List (Addr × Obj)} {R : Value → List (Addr × Obj) → Prop}
    (C : ConG w p loose mean mg mb f vs d news R)
    {dp un : Nat} {gd : Option (List Code)} {cn : Str} {cs : Scope} {a : Addr} {ccd : Value} {cl : List (Str × Addr)} {outer : List Env} {A₀ : Around} {base h₀ : Heap} {L : Addr} {m : Str → Option Value} {s : Shared} {Q E : Value → Shared → Prop}
    (B : Below A₀ base outer h₀) (F : Fr h₀ L s.heap m) (X : (hd.heap_1 w.params).In h₀) (N : News h₀ L s.heap news) (T : Top p loose mean mg mb h₀) (hk : cs.kind = .function) (G : AllBare s.gens)
    (hd : dp + d < recursionLimit) (hu : un + 8 * d < cLine)
    (ret : ∀ r s' tl, R r tl → s'.os = s.os → AllBare s'.gens → Fr h₀ L s'.heap m → News h₀ L s'.heap (tl ++ news) → Q r s') :
    wpAny (model PySem.Challenge.rw_ik0051_01.row.prog w) (ktrTop dp un gd cn cs L a ccd cl outer) (call (.ref f) vs) Q E s :=
  C _ _ _ _ _ _ _ _ _ _ _ _ _ _ _ _ _ B F X N T hk G hd hu fun r s' tl o g f1 n1 r1 => ret r s' tl r1 o g f1 n1
theorem conT_use {w : World} {p : Program} {loose : List Str} {mean : ExcName → Option Value} {mg mb : Str → Option Value} {f : Addr} {vs : List Value} {d : Nat} {P : Addr} {ps : Array Value} {news : List (Addr × Obj)} {R : Value → List (Addr × Obj) → Prop}
    (C : ConT w p loose mean mg mb f vs d P ps news R)
    {dp un : Nat} {gd : Option (List Code)} {cn : Str} {cs : Scope} {a : Addr} {ccd : Value} {cl : List (Str × Addr)} {outer : List Env} {A₀ : Around} {base h₀ : Heap} {L : Addr} {m : Str → Option Value} {s : Shared} {Q E : Value → Shared → Prop}
    (B : Below A₀ base outer h₀) (F : Fr h₀ L s.heap m) (X : (hd.heap_1 w.params).In h₀) (N : News h₀ L s.heap ((P, tabObj ps) :: news)) (T : Top p loose mean mg mb h₀) (hk : cs.kind = .function) (G : AllBare s.gens)
    (hd : dp + d < recursionLimit) (hu : un + 8 * d < cLine)
    (ret : ∀ r s' tl ps', R r tl → s'.os = s.os → AllBare s'.gens → TriplesOk ps'.toList → Fr h₀ L s'.heap m → News h₀ L s'.heap (tl ++ (P, tabObj ps') :: news) → Q r s') :
    wpAny (model PySem.Challenge.rw_ik0051_01.row.prog w) (ktrTop dp un gd cn cs L a ccd cl outer) (call (.ref f) vs) Q E s :=
  C _ _ _ _ _ _ _ _ _ _ _ _ _ _ _ _ _ B F X N T hk G hd hu fun r s' tl ps' o g t f1 n1 r1 => ret r s' tl ps' r1 o g t f1 n1
theorem conG_useN {w : World} {p : Program} {loose : List Str} {mean : ExcName → Option Value} {mg mb : Str → Option Value} {f : Addr} {vs : List Value} {d : Nat} {news : List (Addr × Obj)} {R : Value → List (Addr × Obj) → Prop}
    {dp un : Nat} {gd : Option (List Code)} {cn : Str} {cs : Scope} {a : Addr} {ccd : Value} {cl : List (Str × Addr)} {outer : List Env} {A₀ : Around} {base h₀ : Heap} {L : Addr} {m : Str → Option Value} {s : Shared} {Q E : Value → Shared → Prop}
    (N : News h₀ L s.heap news) (B : Below A₀ base outer h₀) (F : Fr h₀ L s.heap m) (X : (hd.heap_1 w.params).In h₀) (T : Top p loose mean mg mb h₀) (hk : cs.kind = .function) (G : AllBare s.gens)
    (hd : dp + d < recursionLimit) (hu : un + 8 * d < cLine) (C : ConG w p loose mean mg mb f vs d news R)
    (ret : ∀ r s' tl, R r tl → s'.os = s.os → AllBare s'.gens → Fr h₀ L s'.heap m → News h₀ L s'.heap (tl ++ news) → Q r s') :
    wpAny (model PySem.Challenge.rw_ik0051_01.row.prog w) (ktrTop dp un gd cn cs L a ccd cl outer) (call (.ref f) vs) Q E s := conG_use C B F X N T hk G hd hu ret
theorem conT_useN {P : Addr} {ps : Array Value} {w : World} {p : Program} {loose : List Str} {mean : ExcName → Option Value} {mg mb : Str → Option Value} {f : Addr} {vs : List Value} {d : Nat} {news : List (Addr × Obj)} {R : Value → List (Addr × Obj) → Prop}
    {dp un : Nat} {gd : Option (List Code)} {cn : Str} {cs : Scope} {a : Addr} {ccd : Value} {cl : List (Str × Addr)} {outer : List Env} {A₀ : Around} {base h₀ : Heap} {L : Addr} {m : Str → Option Value} {s : Shared} {Q E : Value → Shared → Prop}
    (N : News h₀ L s.heap ((P, tabObj ps) :: news)) (B : Below A₀ base outer h₀) (F : Fr h₀ L s.heap m) (X : (hd.heap_1 w.params).In h₀) (T : Top p loose mean mg mb h₀) (hk : cs.kind = .function) (G : AllBare s.gens)
    (hd : dp + d < recursionLimit) (hu : un + 8 * d < cLine) (C : ConT w p loose mean mg mb f vs d P ps news R)
    (ret : ∀ r s' tl ps', R r tl → s'.os = s.os → AllBare s'.gens → TriplesOk ps'.toList → Fr h₀ L s'.heap m → News h₀ L s'.heap (tl ++ (P, tabObj ps') :: news) → Q r s') :
    wpAny (model PySem.Challenge.rw_ik0051_01.row.prog w) (ktrTop dp un gd cn cs L a ccd cl outer) (call (.ref f) vs) Q E s := conT_use C B F X N T hk G hd hu ret
/-- a turn's end where one list goes on -/
noncomputable def LStep (h₀ : Heap) (L : Addr) (s : Shared) (y : Str) (stored : List Str) (m₀ : Str → Option Value) (l : Addr) (news : List (Addr × Obj)) (J : Nat → Int → List Value → Prop) (Q : Flow → Shared → Prop) (n : Nat) (f : Flow) (s₃ : Shared) : Prop :=
  match f with
  | .next | .cont => ∃ m₂ xs' c' n' i' t', s₃.os = s.os ∧ AllBare s₃.gens ∧ Fr h₀ L s₃.heap m₂ ∧ News h₀ L s₃.heap ((l, W.listOf xs' c') :: news) ∧ m₂ y = some (.int i' t') ∧ (∀ x, x ≠ y → stored.contains x = false → m₂ x = m₀ x) ∧ n' < n ∧ J n' i' xs'.toList
  | .brk => Q .next s₃
  | .ret v => Q (.ret v) s₃
section
variable {prog : Program} {w : World} {A : Around} {E : Value → Shared → Prop} {Q : Flow → Shared → Prop} {s : Shared} {env : Env} {h₀ : Heap} {L : Addr} {m₀ : Str → Option Value} {news : List (Addr × Obj)} {test : Expr} {body : List Stmt}
theorem LStep.intro {s₃ : Shared} {y : Str} {stored : List Str} {l : Addr} {J : Nat → Int → List Value → Prop} {n n' : Nat} {m₂ : Str → Option Value} {xs' : Array Value} {c' : Nat} {i' : Int} {t' : Tok} {led : List (Addr × Obj)}
    (F : Fr h₀ L s₃.heap m₂) (N : News h₀ L s₃.heap led) (hl : (l, W.listOf xs' c') ∈ led) (sub : ∀ p ∈ news, p ∈ led) (ho : s₃.os = s.os) (G : AllBare s₃.gens)
    (hy : m₂ y = some (.int i' t')) (hm : ∀ x, x ≠ y → stored.contains x = false → m₂ x = m₀ x) (hn : n' < n) (hJ : J n' i' xs'.toList) : LStep h₀ L s y stored m₀ l news J Q n .next s₃ :=
  ⟨m₂, xs', c', n', i', t', ho, G, F, (fun p hp => N p (by
    rcases List.mem_cons.mp hp with rfl | hp
    · exact hl
    · exact sub p hp)), hy, hm, hn, hJ⟩
theorem whl_list {k n₀ : Nat} {i₀ : Int} {t₀ : Tok} {l : Addr} {xs : Array Value} {c : Nat} (y : Str) (stored : List Str) (J : Nat → Int → List Value → Prop)
    (F : Fr h₀ L s.heap m₀) (N : News h₀ L s.heap ((l, W.listOf xs c) :: news)) (G : AllBare s.gens) (hy : m₀ y = some (.int i₀ t₀)) (hJ : J n₀ i₀ xs.toList)
    (turn : ∀ n i t (u : Str → Option Value) vs c₁ s₁, s₁.os = s.os → AllBare s₁.gens → J n i vs → Fr h₀ L s₁.heap (fun x => if x = y then some (.int i t) else if stored.contains x then u x else m₀ x) →
      News h₀ L s₁.heap ((l, W.listOf vs.toArray c₁) :: news) →
      wpAny (model prog w) A (isTrue test env (eval test env)) (fun b₁ s₂ => WhlIf b₁ (wpAny (model prog w) A (execs body env) (LStep h₀ L s y stored m₀ l news J Q n) E s₂) (Q .next s₂)) E s₁)
    (hE : PassesOwn (model prog w) A env E := by passes_own) : WhlRest prog w A E env test body [] Q k s := by
  refine whl_tok (n₀ := n₀) y stored (fun n i led => ∃ vs c₁, led = (l, W.listOf vs c₁) :: news ∧ J n i vs.toList) F N G hy ⟨xs, c, rfl, hJ⟩ ?_ hE
  rintro n i t u news₁ s₁ ho G₁ ⟨vs, c₁, rfl, hJ₁⟩ F₁ N₁
  refine wpAny_mono (turn n i t u vs.toList c₁ s₁ ho G₁ hJ₁ F₁ (by simpa using N₁)) (fun b₁ s₂ h₂ => ?_) fun _ _ e => e
  cases b₁ with
  | false => exact h₂
  | true =>
    unfold WhlIf at h₂ ⊢
    rw [if_pos rfl] at h₂ ⊢
    refine wpAny_mono h₂ (fun f s₃ h₃ => ?_) fun _ _ e => e
    cases f with
    | next =>
      obtain ⟨m₂, xs', c', n', i', t', a1, a2, a4, a5, a6, a7, a8, a9⟩ := h₃
      exact ⟨m₂, _, n', i', t', a1, a2, a4, a5, a6, a7, a8, xs', c', rfl, a9⟩
    | cont =>
      obtain ⟨m₂, xs', c', n', i', t', a1, a2, a4, a5, a6, a7, a8, a9⟩ := h₃
      exact ⟨m₂, _, n', i', t', a1, a2, a4, a5, a6, a7, a8, xs', c', rfl, a9⟩
    | brk => exact h₃
    | ret v => exact h₃
end
end Mine
end
section
open PySem PySem.W PyProof.Rows PySem.Spec PySem.Calls
set_option maxRecDepth 100000
namespace Mine
theorem rows_Jn : True := by
  k_with_none
  (k_with "compareOp IsNot str ref" => (k_here; refine wpAny_isNot_other rfl (fun e => by cases e) ?_))
  (k_with "subscriptTail Name Name ref int" => (k_here; (refine' item_mem (by k_asm) (by (repeat (first | assumption | refine List.mem_cons_of_mem _ ?_)); done) (by first | decide | omega) (by first | decide | omega) (by first | assumption | exact rfl) ?_)))
  (k_with "call builtin:len" => (k_here; (refine' len_mem (by k_asm) (by (repeat (first | assumption | refine List.mem_cons_of_mem _ ?_)); done) (by first | omega | decide | (simp)) ?_)))
  (k_with "LStep" => refine Hold.out ?_)
  (k_with "ite" => (first | (rw [if_pos (by first | (simp only [decide_eq_true_eq]; omega) | (simp only [beq_iff_eq]; omega))]) | (rw [if_neg (by first | (simp only [decide_eq_true_eq]; omega) | (simp only [beq_iff_eq]; omega))])))
  (k_with "formatField str" => (k_here; k_dflt (refine' PyProof.Rows.formatField_str ?_ (by (rw [sizeLine_eq]; omega))); intro t' k'))
  (k_with "WhlRest" => ((with_reducible show WhlRest _ _ _ _ _ _ _ _ _ 0 _); refine Hold.out ?_))
  (k_with "exec While BoolOp" => (k_here; k_dflt (refine whl_start 1 ?_)))
  (k_with "exec While Compare" => (k_here; k_dflt (refine whl_start 3 ?_)))
  (k_with "WhlIf" => (first | (refine WhlIf.yes (by (first | decide | (simp only [decide_eq_true_eq]; omega))) ?_) | (refine WhlIf.no (by (first | decide | (simp only [decide_eq_false_iff_not]; omega))) ?_)))
  (k_with "compareOp NotIn str str" => (k_here; (first | (refine' notInE (b := true) (by k_dflt (decide +kernel)) ?_) | (refine' notInE (b := false) (by k_dflt (decide +kernel)) ?_)); (try dsimp only [Bool.not_true, Bool.not_false])))
  (k_with "Eq some" => exact News.get (by k_asm) (by k_mem))
  (k_with "subscriptTail Name Slice str ref" => (k_here; (first | (refine' sliceE_ns (s := ⟨_, _, _, _, _⟩) (by first | kxw_text | assumption) (by k_asm) (by k_asm) (by first | decide | (rw [sizeLine_eq]; omega)) ?_) | (refine' sliceE_sn (s := ⟨_, _, _, _, _⟩) (by first | kxw_text | assumption) (by k_asm) (by k_asm) (by first | decide | (rw [sizeLine_eq]; omega)) ?_) | (refine' sliceE_ss (s := ⟨_, _, _, _, _⟩) (by first | kxw_text | assumption) (by k_asm) (by k_asm) (by first | decide | (rw [sizeLine_eq]; omega)) ?_)); intro h' t' k' F' N'))
  (k_with "subscriptTail Name Constant str int" => (k_here; (refine' itemM (by first | kxw_text | assumption) (by first | decide | (simp [fitsSsize]; omega)) (by first | decide | omega) (by first | decide | omega) ?_)))
  (k_with "subscriptTail Name Name str int" => (k_here; (refine' itemM (by first | kxw_text | assumption) (by first | decide | (simp [fitsSsize]; omega)) (by first | decide | omega) (by first | decide | omega) ?_)))
  (k_with "And" => (refine ⟨News.get (by k_asm) (by k_mem), ?_⟩; try dsimp only [List.nil_append, List.cons_append]))
  (k_with "callWith ref" => (k_here; (refine' callWith_bm (by k_asm) (by k_mem) ?_)))
  (k_with "call ref" => (k_here; (try dsimp only [List.nil_append, List.cons_append]); (refine' call_bm_K (by k_asm) (by k_asm) (by k_mem) (by k_upd) ?_ (by first | size_fits | (simp only [List.size_toArray]; rw [sizeLine_eq]; omega))); intro h' F' N'))
  (k_with "getAttr ref" => (k_here; (with_reducible show wpAny _ _ (getAttr (Value.ref _) (Str.ofString "append") true) _ _ _); (refine' getAttr_append_K (by k_asm) (by k_asm) (by k_mem) (by rfl) ?_); intro b' h' tk' F' N' l1'; (try k_lt l1')))
  (k_with "eval Constant int" => (refine m_int ?_))
  (k_with "eval Constant str" => (refine m_str ?_))
  (k_with "binaryOp Add int int" => (refine m_add ?_))
  (k_with "binaryOp Sub int int" => (refine m_sub ?_))
  (k_with "inplaceOp Add int int" => (refine m_iadd ?_))
  (k_with "unaryOp USub int" => (refine m_neg ?_))
  (k_with "execs nil" => (k_here; (try dsimp only); refine wpAny_execs_nil ?_))
  (k_with "execs cons" => (k_here; (try dsimp only); (try (refine gen_tok ?_; intro _)); refine execs_let ?_; intro _))
  exact True.intro
theorem strsAre_get : ∀ {vs : List Value} {ss : List Str}, StrsAre vs ss → ∀ (i : Nat) (y : Str), ss[i]? = some y → ∃ t, vs[i]? = some (.str y t)
  | _, _, .nil => fun i y h => by simp at h
  | _, _, .cons x t hr => fun i y h => by
    cases i with
    | zero => simp at h; subst h; exact ⟨t, rfl⟩
    | succ i => simpa using strsAre_get hr i y (by simpa using h)
theorem OutT.item {st : Addr} {k q : Nat} {vs : List Value} (h : OutT st k vs) (hq : q < k) : ∃ t, vs[(2 + (q:Int)).toNat]? = some (.str (Str.ofString "[0-9]") t) := by
  obtain ⟨t0, rest, rfl, hr⟩ := h
  rw [show (2 + (q:Int)).toNat = q + 2 by omega]
  simpa using strsAre_get hr q (Str.ofString "[0-9]") (by simp [List.getElem?_replicate, hq])
noncomputable def figText (k : Nat) : Str := Str.ofString "(?s:.*\\." ++ (List.replicate k (Str.ofString "[0-9]")).foldl (· ++ ·) (Str.ofString "") ++ Str.ofString ")\\Z"
theorem text_eq {y y' : Str} {t : Tok} (e : y = y') : Value.str y t = Value.str y' t := by rw [e]
theorem join_abs {prog : Program} {w : World} {A : Around} {E : Value → Shared → Prop} {s : Shared} {h₀ : Heap} {L a : Addr} {news : List (Addr × Obj)} {xs : Array Value} {n : Nat} {ys : List Str} {x : Str} {t : Tok} {Q : Value → Shared → Prop} (N : News h₀ L s.heap news) (hm : (a, W.listOf xs n) ∈ news) (hi : StrsAre xs.toList ys)
    (hok : (ys.map (·.length)).sum + ys.length * x.length ≤ 16777216) {y : Str} (e : Txt.join x ys = y) (h : ∀ t' k, Q (.str y t') { s with toks := k }) : wpAny (model prog w) A (call (.builtin "str.join") [.str x t, .ref a]) Q E s :=
  PyProof.Rows.join_list ⟨_, N.get hm, rfl, _, rfl⟩ hi hok (by rw [e]; exact h)
theorem rows_Jn_1 : True := by
  k_with_none
  (k_with "call builtin:str.join" => (k_here; k_dflt (refine' join_abs (by k_asm) (by k_mem) (by first | assumption | exact (.cons _ _ (.cons _ _ .nil) : StrsAre [_, _] _) | exact (.cons _ _ .nil : StrsAre [_] _)) (by first | assumption | (simp; omega)) (by assumption) ?_); intro t' k'))
  (k_with "compareOp IsNot str ref" => (k_here; refine wpAny_isNot_other rfl (fun e => by cases e) ?_))
  (k_with "subscriptTail Name Name ref int" => (k_here; (refine' item_mem (by k_asm) (by (repeat (first | assumption | refine List.mem_cons_of_mem _ ?_)); done) (by first | decide | omega) (by first | decide | omega) (by first | assumption | exact rfl) ?_)))
  (k_with "call builtin:len" => (k_here; (refine' len_mem (by k_asm) (by (repeat (first | assumption | refine List.mem_cons_of_mem _ ?_)); done) (by first | omega | decide | (simp)) ?_)))
  (k_with "LStep" => refine Hold.out ?_)
  (k_with "ite" => (first | (rw [if_pos (by first | (simp only [decide_eq_true_eq]; omega) | (simp only [beq_iff_eq]; omega))]) | (rw [if_neg (by first | (simp only [decide_eq_true_eq]; omega) | (simp only [beq_iff_eq]; omega))])))
  (k_with "formatField str" => (k_here; k_dflt (refine' PyProof.Rows.formatField_str ?_ (by (rw [sizeLine_eq]; omega))); intro t' k'))
  (k_with "WhlRest" => ((with_reducible show WhlRest _ _ _ _ _ _ _ _ _ 0 _); refine Hold.out ?_))
  (k_with "exec While BoolOp" => (k_here; k_dflt (refine whl_start 1 ?_)))
  (k_with "exec While Compare" => (k_here; k_dflt (refine whl_start 3 ?_)))
  (k_with "WhlIf" => (first | (refine WhlIf.yes (by (first | decide | (simp only [decide_eq_true_eq]; omega))) ?_) | (refine WhlIf.no (by (first | decide | (simp only [decide_eq_false_iff_not]; omega))) ?_)))
  (k_with "compareOp NotIn str str" => (k_here; (first | (refine' notInE (b := true) (by k_dflt (decide +kernel)) ?_) | (refine' notInE (b := false) (by k_dflt (decide +kernel)) ?_)); (try dsimp only [Bool.not_true, Bool.not_false])))
  (k_with "Eq some" => exact News.get (by k_asm) (by k_mem))
  (k_with "subscriptTail Name Slice str ref" => (k_here; (first | (refine' sliceE_ns (s := ⟨_, _, _, _, _⟩) (by first | kxw_text | assumption) (by k_asm) (by k_asm) (by first | decide | (rw [sizeLine_eq]; omega)) ?_) | (refine' sliceE_sn (s := ⟨_, _, _, _, _⟩) (by first | kxw_text | assumption) (by k_asm) (by k_asm) (by first | decide | (rw [sizeLine_eq]; omega)) ?_) | (refine' sliceE_ss (s := ⟨_, _, _, _, _⟩) (by first | kxw_text | assumption) (by k_asm) (by k_asm) (by first | decide | (rw [sizeLine_eq]; omega)) ?_)); intro h' t' k' F' N'))
  (k_with "subscriptTail Name Constant str int" => (k_here; (refine' itemM (by first | kxw_text | assumption) (by first | decide | (simp [fitsSsize]; omega)) (by first | decide | omega) (by first | decide | omega) ?_)))
  (k_with "subscriptTail Name Name str int" => (k_here; (refine' itemM (by first | kxw_text | assumption) (by first | decide | (simp [fitsSsize]; omega)) (by first | decide | omega) (by first | decide | omega) ?_)))
  (k_with "And" => (refine ⟨News.get (by k_asm) (by k_mem), ?_⟩; try dsimp only [List.nil_append, List.cons_append]))
  (k_with "callWith ref" => (k_here; (refine' callWith_bm (by k_asm) (by k_mem) ?_)))
  (k_with "call ref" => (k_here; (try dsimp only [List.nil_append, List.cons_append]); (refine' call_bm_K (by k_asm) (by k_asm) (by k_mem) (by k_upd) ?_ (by first | size_fits | (simp only [List.size_toArray]; rw [sizeLine_eq]; omega))); intro h' F' N'))
  (k_with "getAttr ref" => (k_here; (with_reducible show wpAny _ _ (getAttr (Value.ref _) (Str.ofString "append") true) _ _ _); (refine' getAttr_append_K (by k_asm) (by k_asm) (by k_mem) (by rfl) ?_); intro b' h' tk' F' N' l1'; (try k_lt l1')))
  (k_with "eval Constant int" => (refine m_int ?_))
  (k_with "eval Constant str" => (refine m_str ?_))
  (k_with "binaryOp Add int int" => (refine m_add ?_))
  (k_with "binaryOp Sub int int" => (refine m_sub ?_))
  (k_with "inplaceOp Add int int" => (refine m_iadd ?_))
  (k_with "unaryOp USub int" => (refine m_neg ?_))
  (k_with "execs nil" => (k_here; (try dsimp only); refine wpAny_execs_nil ?_))
  (k_with "execs cons" => (k_here; (try dsimp only); (try (refine gen_tok ?_; intro _)); refine execs_let ?_; intro _))
  exact True.intro
set_option maxHeartbeats 4000000 in
theorem jn_con (w : World) (p : Program) (loose : List Str) (mean : ExcName → Option Value) (mg mb : Str → Option Value) (news : List (Addr × Obj)) (st lp : Addr) (vs : List Value) (n k : Nat) (hlp : (lp, lstN vs n) ∈ news) (hO : OutT st k vs) (hk1 : 1 ≤ k) (hk6 : k ≤ 6) :
   ConG w p loose mean mg mb 102 [.ref lp, .ref st] 1 news (fun r tl => ∃ t', r = .str (figText k) t' ∧ tl = []) := by
  obtain ⟨t0, rest, hvs, hr⟩ := id hO
  have hvl := hO.len
  have v0 : vs[(0:Int).toNat]? = some (.ref st) := by rw [hvs]; rfl
  have v1 : vs[((0:Int) + 1).toNat]? = some (.str (Str.ofString "\\.") t0) := by rw [hvs]; rfl
  unfold ConG
  k_fill
  intro dp un gd cn cs a ccd cl outer A₀ base h₀ L m s Q E B F X N T hk G hd hu hret
  refine wpAny_call ?_
  first | k_dflt cell_enter |   (refine' code_defC ?k1 ?k2 ?k3 ?k4 ?k5 ?kA ?kF ?kK ?k6 ?k7 ?k8 ?k9 ?kB ?kD ?_ ?c2 ?c3 ?c4; (case kA => exact rfl); (case kF => exact rfl); (case kK => first | exact rfl | assumption); (case k1 => k_asm); (case k2 => k_asm); (case k3 => k_asm); (case k4 => k_asm); (case k5 => k_asm); (case k6 => k_is); (case k7 => k_is); (case k8 => ktr_room); (case k9 => exact BindsTo.of_eq rfl); (case kB => exact rfl); (case kD => decide +kernel); (case c2 => exact rfl); (case c3 => exact rfl); (case c4 => exact rfl); k_whole; intro g' L' h' tk' cells' FG' F' N' Y' B' X' T' l1; (try k_lt l1); k_cells Y'; (try simp only [List.cons_append, List.nil_append] at N'); (try dsimp only); (try k_lift B'); (try k_fold))
  k_steps
  refine Hold.mk ?_
  refine whl_list (n₀ := k) "i" [] (fun n i xs => ∃ q : Nat, q + n = k ∧ i = 2 + (q:Int) ∧ StrsAre xs ((Str.ofString "\\.") :: List.replicate q (Str.ofString "[0-9]"))) (by k_asm) (by k_asm) G rfl ⟨0, by omega, by omega, .cons _ _ .nil⟩ ?_ (by first | passes_own | with_unfolding_all passes_own)
  rintro n i ti u xs c₁ s₁ ho G₁ ⟨q, hq, hi, hS⟩ F₁ N₁
  have hxl := strsAre_len hS
  simp only [List.length_cons, List.length_replicate] at hxl
  cases n with
  | zero =>
    have hqk : q = k := by omega
    subst hqk
    have hsum : (((Str.ofString "\\.") :: List.replicate q (Str.ofString "[0-9]")).map (·.length)).sum + ((Str.ofString "\\.") :: List.replicate q (Str.ofString "[0-9]")).length * (Str.ofString "").length ≤ 16777216 := by
      have e1 : (Str.ofString "").length = 0 := by decide +kernel
      have e2 : (Str.ofString "\\.").length = 2 := by decide +kernel
      have e3 : (Str.ofString "[0-9]").length = 5 := by decide +kernel
      simp [e1, e2, e3]
      omega
    have hjl : (Txt.join (Str.ofString "") ((Str.ofString "\\.") :: List.replicate q (Str.ofString "[0-9]"))).length ≤ 100 := by
      have : q = 1 ∨ q = 2 ∨ q = 3 ∨ q = 4 ∨ q = 5 ∨ q = 6 := by omega
      rcases this with rfl | rfl | rfl | rfl | rfl | rfl <;> decide +kernel
    have hjj : ∃ y, Txt.join (Str.ofString "") [Str.ofString ".*", Txt.join (Str.ofString "") ((Str.ofString "\\.") :: List.replicate q (Str.ofString "[0-9]"))] = y ∧ y.length ≤ 100 ∧ Str.empty ++ Str.ofString "(?s:" ++ y ++ Str.ofString ")\\Z" = figText q := by
      refine ⟨_, rfl, ?_⟩
      have : q = 1 ∨ q = 2 ∨ q = 3 ∨ q = 4 ∨ q = 5 ∨ q = 6 := by omega
      rcases this with rfl | rfl | rfl | rfl | rfl | rfl <;> decide +kernel
    obtain ⟨y2, hy2, hy2l, hy2t⟩ := hjj
    generalize hJ : Txt.join (Str.ofString "") ((Str.ofString "\\.") :: List.replicate q (Str.ofString "[0-9]")) = y1 at hy2 hjl
    have hsum2 : ([Str.ofString ".*", y1].map (·.length)).sum + [Str.ofString ".*", y1].length * (Str.ofString "").length ≤ 16777216 := by
      have e1 : (Str.ofString "").length = 0 := by decide +kernel
      have e2 : (Str.ofString ".*").length = 2 := by decide +kernel
      simp [e1, e2]
      omega
    k_steps
    rw [hy2t]
    exact hret _ _ [] ho G₁ (by k_asm) (cb_drop (by assumption) (fun p hp => by repeat (first | exact hp | refine List.mem_cons_of_mem _ ?_))) ⟨_, rfl, rfl⟩
  | succ n =>
    obtain ⟨tq, vi⟩ := hO.item (q := q) (by omega)
    rw [← hi] at vi
    k_steps
    refine Hold.mk ?_
    refine' LStep.intro ?F ?N ?hl ?sub ?ho ?G ?hy ?hm (Nat.lt_succ_self _) ?hJ
    case F => k_asm
    case N => k_asm
    case hl => k_mem
    case sub => exact fun p hp => by repeat (first | exact hp | refine List.mem_cons_of_mem _ ?_)
    case ho => exact ho
    case G => assumption
    case hy => rfl
    case hm =>
      intro x h1 h2
      simp only [h1, h2, if_false, Bool.false_eq_true]
    case hJ =>
      refine ⟨q + 1, by omega, by omega, ?_⟩
      rw [List.push_toArray]
      have := strsAre_snoc (x := Str.ofString "[0-9]") (t := tq) hS
      rw [List.replicate_succ']
      exact this
theorem rowsoff_Jn : True := by
  k_with_none
  exact True.intro
end Mine
end
section
open PySem PySem.W PyProof.Rows PySem.Spec PySem.Calls
set_option maxRecDepth 100000
namespace Mine

theorem rows_Jn1 : True := by
  k_with_none
  (k_with "exec While BoolOp" => (k_here; k_dflt (refine whl_start 5 ?_)))
  (k_with "call builtin:str.join" => (k_here; k_dflt (refine' join_abs (by k_asm) (by k_mem) (by first | assumption | exact (.cons _ _ (.cons _ _ .nil) : StrsAre [_, _] _) | exact (.cons _ _ .nil : StrsAre [_] _)) (by first | assumption | (simp; omega)) (by assumption) ?_); intro t' k'))
  (k_with "compareOp IsNot str ref" => (k_here; refine wpAny_isNot_other rfl (fun e => by cases e) ?_))
  (k_with "subscriptTail Name Name ref int" => (k_here; (refine' item_mem (by k_asm) (by (repeat (first | assumption | refine List.mem_cons_of_mem _ ?_)); done) (by first | decide | omega) (by first | decide | omega) (by first | assumption | exact rfl) ?_)))
  (k_with "LStep" => refine Hold.out ?_)
  (k_with "ite" => (first | (rw [if_pos (by first | (simp only [decide_eq_true_eq]; omega) | (simp only [beq_iff_eq]; omega))]) | (rw [if_neg (by first | (simp only [decide_eq_true_eq]; omega) | (simp only [beq_iff_eq]; omega))])))
  (k_with "formatField str" => (k_here; k_dflt (refine' PyProof.Rows.formatField_str ?_ (by (rw [sizeLine_eq]; omega))); intro t' k'))
  (k_with "exec While BoolOp" => (k_here; k_dflt (refine whl_start 1 ?_)))
  (k_with "exec While Compare" => (k_here; k_dflt (refine whl_start 3 ?_)))
  (k_with "WhlIf" => (first | (refine WhlIf.yes (by (first | decide | (simp only [decide_eq_true_eq]; omega))) ?_) | (refine WhlIf.no (by (first | decide | (simp only [decide_eq_false_iff_not]; omega))) ?_)))
  (k_with "compareOp NotIn str str" => (k_here; (first | (refine' notInE (b := true) (by k_dflt (decide +kernel)) ?_) | (refine' notInE (b := false) (by k_dflt (decide +kernel)) ?_)); (try dsimp only [Bool.not_true, Bool.not_false])))
  (k_with "Eq some" => exact News.get (by k_asm) (by k_mem))
  (k_with "subscriptTail Name Slice str ref" => (k_here; (first | (refine' sliceE_ns (s := ⟨_, _, _, _, _⟩) (by first | kxw_text | assumption) (by k_asm) (by k_asm) (by first | decide | (rw [sizeLine_eq]; omega)) ?_) | (refine' sliceE_sn (s := ⟨_, _, _, _, _⟩) (by first | kxw_text | assumption) (by k_asm) (by k_asm) (by first | decide | (rw [sizeLine_eq]; omega)) ?_) | (refine' sliceE_ss (s := ⟨_, _, _, _, _⟩) (by first | kxw_text | assumption) (by k_asm) (by k_asm) (by first | decide | (rw [sizeLine_eq]; omega)) ?_)); intro h' t' k' F' N'))
  (k_with "subscriptTail Name Constant str int" => (k_here; (refine' itemM (by first | kxw_text | assumption) (by first | decide | (simp [fitsSsize]; omega)) (by first | decide | omega) (by first | decide | omega) ?_)))
  (k_with "subscriptTail Name Name str int" => (k_here; (refine' itemM (by first | kxw_text | assumption) (by first | decide | (simp [fitsSsize]; omega)) (by first | decide | omega) (by first | decide | omega) ?_)))
  (k_with "And" => (refine ⟨News.get (by k_asm) (by k_mem), ?_⟩; try dsimp only [List.nil_append, List.cons_append]))
  (k_with "callWith ref" => (k_here; (refine' callWith_bm (by k_asm) (by k_mem) ?_)))
  (k_with "call ref" => (k_here; (try dsimp only [List.nil_append, List.cons_append]); (refine' call_bm_K (by k_asm) (by k_asm) (by k_mem) (by k_upd) ?_ (by first | size_fits | (simp only [List.size_toArray]; rw [sizeLine_eq]; omega))); intro h' F' N'))
  (k_with "getAttr ref" => (k_here; (with_reducible show wpAny _ _ (getAttr (Value.ref _) (Str.ofString "append") true) _ _ _); (refine' getAttr_append_K (by k_asm) (by k_asm) (by k_mem) (by rfl) ?_); intro b' h' tk' F' N' l1'; (try k_lt l1')))
  (k_with "eval Constant int" => (refine m_int ?_))
  (k_with "eval Constant str" => (refine m_str ?_))
  (k_with "binaryOp Add int int" => (refine m_add ?_))
  (k_with "binaryOp Sub int int" => (refine m_sub ?_))
  (k_with "inplaceOp Add int int" => (refine m_iadd ?_))
  (k_with "unaryOp USub int" => (refine m_neg ?_))
  (k_with "execs nil" => (k_here; (try dsimp only); refine wpAny_execs_nil ?_))
  (k_with "execs cons" => (k_here; (try dsimp only); (try (refine gen_tok ?_; intro _)); refine execs_let ?_; intro _))
  exact True.intro
theorem len_memE {prog : Program} {w : World} {A : Around} {E : Value → Shared → Prop} {s : Shared} {h₀ : Heap} {L a : Addr} {news : List (Addr × Obj)} {vs : List Value} {n : Nat} {Q : Value → Shared → Prop} (r : Int) (N : News h₀ L s.heap news) (hm : (a, lstN vs n) ∈ news) (e : (vs.length : Int) = r) (hle : vs.length ≤ 1000)
    (h : Q (.int r (s.toks + 1)) { s with toks := s.toks + 1 + 1 }) : wpAny (model prog w) A (call (.builtin "len") [.ref a]) Q E s := len_mem N hm hle (by rw [e]; exact h)
theorem rows_Jn1_1 : True := by
  k_with_none
  (k_with "call builtin:len" => (k_here; (refine' len_memE 1 (by k_asm) (by (repeat (first | assumption | refine List.mem_cons_of_mem _ ?_)); done) (by rfl) (by simp) ?_)))
  (k_with "exec While BoolOp" => (k_here; k_dflt (refine whl_start 5 ?_)))
  (k_with "call builtin:str.join" => (k_here; k_dflt (refine' join_abs (by k_asm) (by k_mem) (by first | assumption | exact (.cons _ _ (.cons _ _ .nil) : StrsAre [_, _] _) | exact (.cons _ _ .nil : StrsAre [_] _)) (by first | assumption | (simp; omega)) (by assumption) ?_); intro t' k'))
  (k_with "compareOp IsNot str ref" => (k_here; refine wpAny_isNot_other rfl (fun e => by cases e) ?_))
  (k_with "subscriptTail Name Name ref int" => (k_here; (refine' item_mem (by k_asm) (by (repeat (first | assumption | refine List.mem_cons_of_mem _ ?_)); done) (by first | decide | omega) (by first | decide | omega) (by first | assumption | exact rfl) ?_)))
  (k_with "LStep" => refine Hold.out ?_)
  (k_with "ite" => (first | (rw [if_pos (by first | (simp only [decide_eq_true_eq]; omega) | (simp only [beq_iff_eq]; omega))]) | (rw [if_neg (by first | (simp only [decide_eq_true_eq]; omega) | (simp only [beq_iff_eq]; omega))])))
  (k_with "formatField str" => (k_here; k_dflt (refine' PyProof.Rows.formatField_str ?_ (by (rw [sizeLine_eq]; omega))); intro t' k'))
  (k_with "exec While BoolOp" => (k_here; k_dflt (refine whl_start 1 ?_)))
  (k_with "exec While Compare" => (k_here; k_dflt (refine whl_start 3 ?_)))
  (k_with "WhlIf" => (first | (refine WhlIf.yes (by (first | decide | (simp only [decide_eq_true_eq]; omega))) ?_) | (refine WhlIf.no (by (first | decide | (simp only [decide_eq_false_iff_not]; omega))) ?_)))
  (k_with "compareOp NotIn str str" => (k_here; (first | (refine' notInE (b := true) (by k_dflt (decide +kernel)) ?_) | (refine' notInE (b := false) (by k_dflt (decide +kernel)) ?_)); (try dsimp only [Bool.not_true, Bool.not_false])))
  (k_with "Eq some" => exact News.get (by k_asm) (by k_mem))
  (k_with "subscriptTail Name Slice str ref" => (k_here; (first | (refine' sliceE_ns (s := ⟨_, _, _, _, _⟩) (by first | kxw_text | assumption) (by k_asm) (by k_asm) (by first | decide | (rw [sizeLine_eq]; omega)) ?_) | (refine' sliceE_sn (s := ⟨_, _, _, _, _⟩) (by first | kxw_text | assumption) (by k_asm) (by k_asm) (by first | decide | (rw [sizeLine_eq]; omega)) ?_) | (refine' sliceE_ss (s := ⟨_, _, _, _, _⟩) (by first | kxw_text | assumption) (by k_asm) (by k_asm) (by first | decide | (rw [sizeLine_eq]; omega)) ?_)); intro h' t' k' F' N'))
  (k_with "subscriptTail Name Constant str int" => (k_here; (refine' itemM (by first | kxw_text | assumption) (by first | decide | (simp [fitsSsize]; omega)) (by first | decide | omega) (by first | decide | omega) ?_)))
  (k_with "subscriptTail Name Name str int" => (k_here; (refine' itemM (by first | kxw_text | assumption) (by first | decide | (simp [fitsSsize]; omega)) (by first | decide | omega) (by first | decide | omega) ?_)))
  (k_with "And" => (refine ⟨News.get (by k_asm) (by k_mem), ?_⟩; try dsimp only [List.nil_append, List.cons_append]))
  (k_with "callWith ref" => (k_here; (refine' callWith_bm (by k_asm) (by k_mem) ?_)))
  (k_with "call ref" => (k_here; (try dsimp only [List.nil_append, List.cons_append]); (refine' call_bm_K (by k_asm) (by k_asm) (by k_mem) (by k_upd) ?_ (by first | size_fits | (simp only [List.size_toArray]; rw [sizeLine_eq]; omega))); intro h' F' N'))
  (k_with "getAttr ref" => (k_here; (with_reducible show wpAny _ _ (getAttr (Value.ref _) (Str.ofString "append") true) _ _ _); (refine' getAttr_append_K (by k_asm) (by k_asm) (by k_mem) (by rfl) ?_); intro b' h' tk' F' N' l1'; (try k_lt l1')))
  (k_with "eval Constant int" => (refine m_int ?_))
  (k_with "eval Constant str" => (refine m_str ?_))
  (k_with "binaryOp Add int int" => (refine m_add ?_))
  (k_with "binaryOp Sub int int" => (refine m_sub ?_))
  (k_with "inplaceOp Add int int" => (refine m_iadd ?_))
  (k_with "unaryOp USub int" => (refine m_neg ?_))
  (k_with "execs nil" => (k_here; (try dsimp only); refine wpAny_execs_nil ?_))
  (k_with "execs cons" => (k_here; (try dsimp only); (try (refine gen_tok ?_; intro _)); refine execs_let ?_; intro _))
  exact True.intro
set_option maxHeartbeats 4000000 in
theorem jn1_con (w : World) (p : Program) (loose : List Str) (mean : ExcName → Option Value) (mg mb : Str → Option Value) (news : List (Addr × Obj)) (st lp : Addr) (n : Nat) (t1 : Tok) (hlp : (lp, lstN [.str (Str.ofString "[^.]") t1] n) ∈ news) :
   ConG w p loose mean mg mb 102 [.ref lp, .ref st] 1 news (fun r tl => ∃ t', r = .str (Str.ofString "(?s:[^.])\\Z") t' ∧ tl = []) := by
  unfold ConG
  k_fill
  intro dp un gd cn cs a ccd cl outer A₀ base h₀ L m s Q E B F X N T hk G hd hu hret
  refine wpAny_call ?_
  first | k_dflt cell_enter |   (refine' code_defC ?k1 ?k2 ?k3 ?k4 ?k5 ?kA ?kF ?kK ?k6 ?k7 ?k8 ?k9 ?kB ?kD ?_ ?c2 ?c3 ?c4; (case kA => exact rfl); (case kF => exact rfl); (case kK => first | exact rfl | assumption); (case k1 => k_asm); (case k2 => k_asm); (case k3 => k_asm); (case k4 => k_asm); (case k5 => k_asm); (case k6 => k_is); (case k7 => k_is); (case k8 => ktr_room); (case k9 => exact BindsTo.of_eq rfl); (case kB => exact rfl); (case kD => decide +kernel); (case c2 => exact rfl); (case c3 => exact rfl); (case c4 => exact rfl); k_whole; intro g' L' h' tk' cells' FG' F' N' Y' B' X' T' l1; (try k_lt l1); k_cells Y'; (try simp only [List.cons_append, List.nil_append] at N'); (try dsimp only); (try k_lift B'); (try k_fold))
  k_steps
  all_goals first | exact (0 : Nat) | skip
  refine' hret _ _ [] rfl G (by k_asm) (cb_drop (by assumption) (fun p hp => by repeat (first | exact hp | refine List.mem_cons_of_mem _ ?_))) ⟨_, text_eq ?e, rfl⟩
  case e => decide +kernel
theorem rows_Jn1_2 : True := by
  k_with_none
  (k_with "call builtin:len" => (k_here; (refine' len_memE 3 (by k_asm) (by (repeat (first | assumption | refine List.mem_cons_of_mem _ ?_)); done) (by rfl) (by simp) ?_)))
  (k_with "call builtin:len" => (k_here; (refine' len_memE 1 (by k_asm) (by (repeat (first | assumption | refine List.mem_cons_of_mem _ ?_)); done) (by rfl) (by simp) ?_)))
  (k_with "exec While BoolOp" => (k_here; k_dflt (refine whl_start 5 ?_)))
  (k_with "call builtin:str.join" => (k_here; k_dflt (refine' join_abs (by k_asm) (by k_mem) (by first | assumption | exact (.cons _ _ (.cons _ _ .nil) : StrsAre [_, _] _) | exact (.cons _ _ .nil : StrsAre [_] _)) (by first | assumption | (simp; omega)) (by assumption) ?_); intro t' k'))
  (k_with "compareOp IsNot str ref" => (k_here; refine wpAny_isNot_other rfl (fun e => by cases e) ?_))
  (k_with "subscriptTail Name Name ref int" => (k_here; (refine' item_mem (by k_asm) (by (repeat (first | assumption | refine List.mem_cons_of_mem _ ?_)); done) (by first | decide | omega) (by first | decide | omega) (by first | assumption | exact rfl) ?_)))
  (k_with "LStep" => refine Hold.out ?_)
  (k_with "ite" => (first | (rw [if_pos (by first | (simp only [decide_eq_true_eq]; omega) | (simp only [beq_iff_eq]; omega))]) | (rw [if_neg (by first | (simp only [decide_eq_true_eq]; omega) | (simp only [beq_iff_eq]; omega))])))
  (k_with "formatField str" => (k_here; k_dflt (refine' PyProof.Rows.formatField_str ?_ (by (rw [sizeLine_eq]; omega))); intro t' k'))
  (k_with "exec While BoolOp" => (k_here; k_dflt (refine whl_start 1 ?_)))
  (k_with "exec While Compare" => (k_here; k_dflt (refine whl_start 3 ?_)))
  (k_with "WhlIf" => (first | (refine WhlIf.yes (by (first | decide | (simp only [decide_eq_true_eq]; omega))) ?_) | (refine WhlIf.no (by (first | decide | (simp only [decide_eq_false_iff_not]; omega))) ?_)))
  (k_with "compareOp NotIn str str" => (k_here; (first | (refine' notInE (b := true) (by k_dflt (decide +kernel)) ?_) | (refine' notInE (b := false) (by k_dflt (decide +kernel)) ?_)); (try dsimp only [Bool.not_true, Bool.not_false])))
  (k_with "Eq some" => exact News.get (by k_asm) (by k_mem))
  (k_with "subscriptTail Name Slice str ref" => (k_here; (first | (refine' sliceE_ns (s := ⟨_, _, _, _, _⟩) (by first | kxw_text | assumption) (by k_asm) (by k_asm) (by first | decide | (rw [sizeLine_eq]; omega)) ?_) | (refine' sliceE_sn (s := ⟨_, _, _, _, _⟩) (by first | kxw_text | assumption) (by k_asm) (by k_asm) (by first | decide | (rw [sizeLine_eq]; omega)) ?_) | (refine' sliceE_ss (s := ⟨_, _, _, _, _⟩) (by first | kxw_text | assumption) (by k_asm) (by k_asm) (by first | decide | (rw [sizeLine_eq]; omega)) ?_)); intro h' t' k' F' N'))
  (k_with "subscriptTail Name Constant str int" => (k_here; (refine' itemM (by first | kxw_text | assumption) (by first | decide | (simp [fitsSsize]; omega)) (by first | decide | omega) (by first | decide | omega) ?_)))
  (k_with "subscriptTail Name Name str int" => (k_here; (refine' itemM (by first | kxw_text | assumption) (by first | decide | (simp [fitsSsize]; omega)) (by first | decide | omega) (by first | decide | omega) ?_)))
  (k_with "And" => (refine ⟨News.get (by k_asm) (by k_mem), ?_⟩; try dsimp only [List.nil_append, List.cons_append]))
  (k_with "callWith ref" => (k_here; (refine' callWith_bm (by k_asm) (by k_mem) ?_)))
  (k_with "call ref" => (k_here; (try dsimp only [List.nil_append, List.cons_append]); (refine' call_bm_K (by k_asm) (by k_asm) (by k_mem) (by k_upd) ?_ (by first | size_fits | (simp only [List.size_toArray]; rw [sizeLine_eq]; omega))); intro h' F' N'))
  (k_with "getAttr ref" => (k_here; (with_reducible show wpAny _ _ (getAttr (Value.ref _) (Str.ofString "append") true) _ _ _); (refine' getAttr_append_K (by k_asm) (by k_asm) (by k_mem) (by rfl) ?_); intro b' h' tk' F' N' l1'; (try k_lt l1')))
  (k_with "eval Constant int" => (refine m_int ?_))
  (k_with "eval Constant str" => (refine m_str ?_))
  (k_with "binaryOp Add int int" => (refine m_add ?_))
  (k_with "binaryOp Sub int int" => (refine m_sub ?_))
  (k_with "inplaceOp Add int int" => (refine m_iadd ?_))
  (k_with "unaryOp USub int" => (refine m_neg ?_))
  (k_with "execs nil" => (k_here; (try dsimp only); refine wpAny_execs_nil ?_))
  (k_with "execs cons" => (k_here; (try dsimp only); (try (refine gen_tok ?_; intro _)); refine execs_let ?_; intro _))
  exact True.intro
set_option maxHeartbeats 4000000 in
theorem jn2_con (w : World) (p : Program) (loose : List Str) (mean : ExcName → Option Value) (mg mb : Str → Option Value) (news : List (Addr × Obj)) (st lp : Addr) (n : Nat) (t1 t2 : Tok) (hlp : (lp, lstN [.str (Str.ofString "[^.]") t1, .ref st, .str (Str.ofString "[^.]") t2] n) ∈ news) :
   ConG w p loose mean mg mb 102 [.ref lp, .ref st] 1 news (fun r tl => ∃ t', r = .str (Str.ofString "(?s:[^.].*[^.])\\Z") t' ∧ tl = []) := by
  unfold ConG
  k_fill
  intro dp un gd cn cs a ccd cl outer A₀ base h₀ L m s Q E B F X N T hk G hd hu hret
  refine wpAny_call ?_
  first | k_dflt cell_enter |   (refine' code_defC ?k1 ?k2 ?k3 ?k4 ?k5 ?kA ?kF ?kK ?k6 ?k7 ?k8 ?k9 ?kB ?kD ?_ ?c2 ?c3 ?c4; (case kA => exact rfl); (case kF => exact rfl); (case kK => first | exact rfl | assumption); (case k1 => k_asm); (case k2 => k_asm); (case k3 => k_asm); (case k4 => k_asm); (case k5 => k_asm); (case k6 => k_is); (case k7 => k_is); (case k8 => ktr_room); (case k9 => exact BindsTo.of_eq rfl); (case kB => exact rfl); (case kD => decide +kernel); (case c2 => exact rfl); (case c3 => exact rfl); (case c4 => exact rfl); k_whole; intro g' L' h' tk' cells' FG' F' N' Y' B' X' T' l1; (try k_lt l1); k_cells Y'; (try simp only [List.cons_append, List.nil_append] at N'); (try dsimp only); (try k_lift B'); (try k_fold))
  k_steps
  all_goals first | exact (0 : Nat) | skip
  refine' hret _ _ [] rfl G (by k_asm) (cb_drop (by assumption) (fun p hp => by repeat (first | exact hp | refine List.mem_cons_of_mem _ ?_))) ⟨_, text_eq ?e, rfl⟩
  case e => decide +kernel
theorem rowsoff_Jn1 : True := by
  k_with_none
  exact True.intro
end Mine
end
section
open PySem PySem.W PyProof.Rows PySem.Spec PySem.Calls
set_option maxRecDepth 100000
namespace Mine
theorem mro_object : mroOf (.type "object") = pure [.type "object"] := by kernel_rfl
theorem lookup_object_new : typeLookup (.type "object") "__new__" = pure (some (.builtin "object.__new__")) := by rw [typeLookup_type, builtinLookup_eq_fast]; kernel_rfl
theorem slot_object_init' : Slot "object" "__init__" "object.__init__" :=
  .of (owner := "object") (n := "__init__") (by rw [typeLookup_type, builtinLookup_eq_fast]; kernel_rfl) (by decide +kernel) (by decide +kernel) (by decide +kernel)
    (by first | exact .inl (by decide +kernel) | exact .inr (by decide +kernel)) (by rw [isSubtype_type]; kernel_rfl)
theorem called_object : TypeCalled "object" "object.__new__" "object.__init__" :=
  ⟨by decide +kernel, by decide +kernel, ⟨_, _, mro_object⟩, madeBy_type mro_object lookup_object_new (by decide +kernel), by decide +kernel, by rw [isSubtype_type]; kernel_rfl, slot_object_init'⟩
theorem typeCall_object : checkTypeCall "object" ⟨[], []⟩ = pure () := by kernel_rfl
theorem newCall_object : checkBuiltinCall "object.__new__" ⟨[.type "object"], []⟩ = pure () := by kernel_rfl
theorem args_object_init_1' (a : Value) : argsOk "object.__init__" ⟨[a], []⟩ := by unfold argsOk; kernel_rfl
noncomputable def plainObj : Obj := { cls := .type "object", data := .plain }
theorem sub_obj : isSubtype (.type "object") (.type "object") = pure true := by rw [isSubtype_type]; kernel_rfl
theorem made_obj : Bind.madeBy (.type "object") = pure (some "object.__new__") := called_object.made
theorem hasDict_obj : typeHasDict (.type "object") = false := by decide +kernel
theorem noNew_obj : ((Manifest.find? "object").elim false (·.mro.any fun t => (Manifest.find? t).elim false (·.noNew))) = false := by decide +kernel
theorem canon_obj : ((some "object.__new__").map Manifest.canonical != some (Manifest.canonical "object.__new__")) = false := bne_self_eq_false _
theorem madeHere_obj : Bind.madeHere "object.__new__" (.type "object") = pure () := by
  unfold Bind.madeHere
  have e : Bind.staticBase (.type "object") = pure (.type "object") := by
    unfold Bind.staticBase
    rw [mro_object, pure_bind]
    simp only [List.forIn_cons, made_obj, pure_bind, Option.isSome, if_true]
  rw [e, pure_bind, made_obj, pure_bind, canon_obj]
  rfl
theorem object_new_in (prog : Program) (w : World) : MeetsIn prog w (Builtin.«object.__new__» ⟨[.type "object"], []⟩) (fun A R s => R (.ok (.ret (.ref s.heap.objs.size))) { s with heap := s.heap.push plainObj }) :=
  .of_wp fun A R s h => by
    unfold Builtin.«object.__new__»
    dsimp only
    refine wpAny_bind (wpAny_pure (a := true) ?_)
    rw [if_neg (by decide)]
    rw [noNew_obj]
    rw [if_neg Bool.false_ne_true]
    rw [madeHere_obj]
    refine wpAny_bind (wpAny_pure ?_)
    rw [if_neg (by decide)]
    rw [hasDict_obj, if_neg Bool.false_ne_true]
    refine wpAny_bind (wpAny_pure ?_)
    refine wpAny_bind (wpAny_newObj_type ?_ (by first | decide | simp [sizeOk]))
    rw [if_neg (by decide +kernel)]
    exact wpAny_pure ⟨_, rfl, h⟩
theorem object_init_0 (obj : Value) : Meets (Builtin.«object.__init__» ⟨[obj], []⟩) (fun A R s => R (.ok (.ret .none)) s) :=
  .of_wp fun prog w A R s h => by
    unfold Builtin.«object.__init__»
    dsimp only
    rw [if_neg (by decide)]
    exact wpAny_pure ⟨_, rfl, h⟩
theorem call_object {prog : Program} {w : World} {A : Around} {E : Value → Shared → Prop} {s : Shared} {Q : Value → Shared → Prop} (h : Q (.ref s.heap.objs.size) { s with heap := s.heap.push plainObj }) :
    wpAny (model prog w) A (call (.type "object") []) Q E s :=
  callType_meetsIn (Q₁ := fun obj s₁ => s₁.TypeIs obj "object" ∧ Q obj s₁) called_object typeCall_object newCall_object (entryFor_of_tree (by kernel_rfl)) F.entry_object_init (object_new_in prog w) ⟨⟨plainObj, Heap.get?_push_size _ rfl, rfl⟩, h⟩ fun obj s₁ hq =>
    ⟨hq.1, args_object_init_1' obj, _, object_init_0 obj, rfl, hq.2⟩
theorem objectK {prog : Program} {w : World} {A : Around} {E : Value → Shared → Prop} {s : Shared} {h₀ : Heap} {L : Addr} {m : Str → Option Value} {news : List (Addr × Obj)} {Q : Value → Shared → Prop} (F : Fr h₀ L s.heap m) (N : News h₀ L s.heap news)
    (h : ∀ b h' tk, Fr h₀ L h' m → News h₀ L h' ((b, plainObj) :: news) → (∀ p ∈ news, p.1 < b) → Q (.ref b) { s with heap := h', toks := tk }) : wpAny (model prog w) A (call (.type "object") []) Q E s :=
  call_object (h _ _ s.toks (F.push _) (News.push F N _) fun p hp => Heap.lt_size (N p hp).1)
end Mine
end
section
open PySem PySem.W PyProof.Rows PySem.Spec PySem.Calls
set_option maxRecDepth 100000
namespace Mine
theorem news_swap {h₀ h : Heap} {L : Addr} {a b : Addr × Obj} {r : List (Addr × Obj)} (N : News h₀ L h (a :: b :: r)) : News h₀ L h (b :: a :: r) := fun p hp => N p (by
  rcases List.mem_cons.mp hp with rfl | hp
  · exact .tail _ (.head _)
  · rcases List.mem_cons.mp hp with rfl | hp
    · exact .head _
    · exact .tail _ (.tail _ hp))
theorem ne90_cons {a : Addr} {o : Obj} {r : List (Addr × Obj)} (h : a ≠ 90) (hr : ∀ p ∈ r, p.1 ≠ 90) : ∀ p ∈ (a, o) :: r, p.1 ≠ 90 := fun p hp => by
  rcases List.mem_cons.mp hp with rfl | hp
  · exact h
  · exact hr p hp
section
theorem rows_Tra : True := by
  k_with_none
  (k_with "call ref" => (k_here; (with_reducible show wpAny _ _ (call (Value.ref 102) _) _ _ _); k_dflt (refine' conG_useN (by k_asm) (by k_asm) (by k_asm) (by k_asm) (by k_asm) (by first | exact rfl | assumption) (by assumption) (by ktr_room) (by ktr_units) (jn1_con _ _ _ _ _ _ _ _ _ _ _ (by (repeat (first | exact List.mem_cons_self | refine List.mem_cons_of_mem _ ?_)); done)) ?_); intro r' s' tl' hR' ho' G' F' N'; (obtain ⟨t', e1', e2'⟩ := hR'; subst e1'; subst e2'); (try simp only [List.nil_append, List.cons_append] at N'); (try dsimp only); (try k_fold)))
  (k_with "call ref" => (k_here; (with_reducible show wpAny _ _ (call (Value.ref 95) _) _ _ _); k_dflt (refine' conT_useN (by exact news_swap (by k_asm)) (by k_asm) (by k_asm) (by k_asm) (by k_asm) (by first | exact rfl | assumption) (by assumption) (by ktr_room) (by ktr_units) (trn1_con _ _ _ _ _ _ _ _ _ _ _ (by assumption) (by exact ne90_cons (by show (_:Nat) ≠ _; omega) (by assumption))) ?_); intro r' s' tl' ps' hR' ho' G' ht' F' N'; (obtain ⟨a', c', t', e1', e2'⟩ := hR'; subst e1'; subst e2'); (try simp only [List.nil_append, List.cons_append] at N'); (try dsimp only); (try k_fold)))
  (k_with "call type:object" => (k_here; (refine' objectK (by k_asm) (by k_asm) ?_); intro b' h' tk' F' N' l1'; (try k_lt l1')))
  (k_with "eval Constant int" => (refine m_int ?_))
  (k_with "eval Constant str" => (refine m_str ?_))
  (k_with "binaryOp Add int int" => (refine m_add ?_))
  (k_with "binaryOp Sub int int" => (refine m_sub ?_))
  (k_with "inplaceOp Add int int" => (refine m_iadd ?_))
  (k_with "unaryOp USub int" => (refine m_neg ?_))
  (k_with "execs nil" => (k_here; (try dsimp only); refine wpAny_execs_nil ?_))
  (k_with "execs cons" => (k_here; (try dsimp only); (try (refine gen_tok ?_; intro _)); refine execs_let ?_; intro _))
  exact True.intro
set_option maxHeartbeats 1000000 in
theorem tr1_con (w : World) (p : Program) (loose : List Str) (mean : ExcName → Option Value) (mg mb : Str → Option Value) (news : List (Addr × Obj)) (t : Tok) (ps : Array Value) (hps : TriplesOk ps.toList) (h90 : ∀ p ∈ news, p.1 ≠ 90) :
   ConT w p loose mean mg mb 76 [.str (Str.ofString "[!.]") t] 4 90 ps news (fun r tl => ∃ t', r = .str (Str.ofString "(?s:[^.])\\Z") t' ∧ tl = []) := by
  unfold ConT
  k_fill
  intro dp un gd cn cs a ccd cl outer A₀ base h₀ L m s Q E B F X N T hk G hd hu hret
  refine wpAny_call ?_
  k_dflt cell_enter
  k_steps
  refine' hret _ _ [] _ ?ho ?G ?ht ?F ?N ⟨_, rfl, rfl⟩
  case F => k_asm
  case N =>
    refine' cb_drop (by assumption) (fun p hp => ?_)
    rcases List.mem_cons.mp hp with rfl | hp
    · repeat (first | exact List.mem_cons_self | refine List.mem_cons_of_mem _ ?_)
    · repeat (first | exact hp | refine List.mem_cons_of_mem _ ?_)
  case ho => repeat (first | exact rfl | assumption | (refine Eq.trans (by assumption) ?_))
  case G => assumption
  case ht => assumption
end
theorem rowsoff_Tra : True := by
  k_with_none
  exact True.intro
end Mine
end
section
open PySem PySem.W PyProof.Rows PySem.Spec PySem.Calls
set_option maxRecDepth 100000
namespace Mine
theorem rows_Trak : True := by
  k_with_none
  (k_with "call ref" => (k_here; (with_reducible show wpAny _ _ (call (Value.ref 102) _) _ _ _); k_dflt (refine' conG_useN (by k_asm) (by k_asm) (by k_asm) (by k_asm) (by k_asm) (by first | exact rfl | assumption) (by assumption) (by ktr_room) (by ktr_units) (jn_con _ _ _ _ _ _ _ _ _ _ _ _ (by (repeat (first | exact List.mem_cons_self | refine List.mem_cons_of_mem _ ?_)); done) (by assumption) (by assumption) (by assumption)) ?_); intro r' s' tl' hR' ho' G' F' N'; (obtain ⟨t', e1', e2'⟩ := hR'; subst e1'; subst e2'); (try simp only [List.nil_append, List.cons_append] at N'); (try dsimp only); (try k_fold)))
  (k_with "call ref" => (k_here; (with_reducible show wpAny _ _ (call (Value.ref 95) _) _ _ _); k_dflt (refine' conT_useN (by exact news_swap (by k_asm)) (by k_asm) (by k_asm) (by k_asm) (by k_asm) (by first | exact rfl | assumption) (by assumption) (by ktr_room) (by ktr_units) (trn_con _ _ _ _ _ _ _ _ _ _ _ _ (by assumption) (by exact ne90_cons (by show (_:Nat) ≠ _; omega) (by assumption)) _ (by assumption) (by assumption) (by assumption) (by assumption) (by assumption)) ?_); intro r' s' tl' ps' hR' ho' G' ht' F' N'; (obtain ⟨a', vs', c', e1', e2', hO'⟩ := hR'; subst e1'; subst e2'); (try simp only [List.nil_append, List.cons_append] at N'); (try dsimp only); (try k_fold)))
  (k_with "call type:object" => (k_here; (refine' objectK (by k_asm) (by k_asm) ?_); intro b' h' tk' F' N' l1'; (try k_lt l1')))
  (k_with "eval Constant int" => (refine m_int ?_))
  (k_with "eval Constant str" => (refine m_str ?_))
  (k_with "binaryOp Add int int" => (refine m_add ?_))
  (k_with "binaryOp Sub int int" => (refine m_sub ?_))
  (k_with "inplaceOp Add int int" => (refine m_iadd ?_))
  (k_with "unaryOp USub int" => (refine m_neg ?_))
  (k_with "execs nil" => (k_here; (try dsimp only); refine wpAny_execs_nil ?_))
  (k_with "execs cons" => (k_here; (try dsimp only); (try (refine gen_tok ?_; intro _)); refine execs_let ?_; intro _))
  exact True.intro
set_option maxHeartbeats 1000000 in
theorem trk_con (w : World) (p : Program) (loose : List Str) (mean : ExcName → Option Value) (mg mb : Str → Option Value) (news : List (Addr × Obj)) (t : Tok) (ps : Array Value) (hps : TriplesOk ps.toList) (h90 : ∀ p ∈ news, p.1 ≠ 90) (x : Str) (k : Nat) (hk1 : 1 ≤ k) (hk6 : k ≤ 6) (hlen : x.length = 2 + 5 * k) (p0 : Txt.item x 0 = "*") (p1 : Txt.item x (0+1) = ".") (digs : ∀ q : Nat, q < k → DigAt x (2 + 5 * (q:Int))) :
   ConT w p loose mean mg mb 76 [.str x t] 4 90 ps news (fun r tl => ∃ t', r = .str (figText k) t' ∧ tl = []) := by
  unfold ConT
  k_fill
  intro dp un gd cn cs a ccd cl outer A₀ base h₀ L m s Q E B F X N T hk G hd hu hret
  refine wpAny_call ?_
  k_dflt cell_enter
  k_steps
  refine' hret _ _ [] _ ?ho ?G ?ht ?F ?N ⟨_, rfl, rfl⟩
  case F => k_asm
  case N =>
    refine' cb_drop (by assumption) (fun p hp => ?_)
    rcases List.mem_cons.mp hp with rfl | hp
    · repeat (first | exact List.mem_cons_self | refine List.mem_cons_of_mem _ ?_)
    · repeat (first | exact hp | refine List.mem_cons_of_mem _ ?_)
  case ho => repeat (first | exact rfl | assumption | (refine Eq.trans (by assumption) ?_))
  case G => assumption
  case ht => assumption
theorem rowsoff_Trak : True := by
  k_with_none
  exact True.intro
end Mine
end
section
open PySem PySem.W PyProof.Rows PySem.Spec PySem.Calls
set_option maxRecDepth 100000
namespace Mine
theorem rows_Tra2 : True := by
  k_with_none
  (k_with "call ref" => (k_here; (with_reducible show wpAny _ _ (call (Value.ref 102) _) _ _ _); k_dflt (refine' conG_useN (by k_asm) (by k_asm) (by k_asm) (by k_asm) (by k_asm) (by first | exact rfl | assumption) (by assumption) (by ktr_room) (by ktr_units) (jn2_con _ _ _ _ _ _ _ _ _ _ _ _ (by (repeat (first | exact List.mem_cons_self | refine List.mem_cons_of_mem _ ?_)); done)) ?_); intro r' s' tl' hR' ho' G' F' N'; (obtain ⟨t', e1', e2'⟩ := hR'; subst e1'; subst e2'); (try simp only [List.nil_append, List.cons_append] at N'); (try dsimp only); (try k_fold)))
  (k_with "call ref" => (k_here; (with_reducible show wpAny _ _ (call (Value.ref 95) _) _ _ _); k_dflt (refine' conT_useN (by exact news_swap (by k_asm)) (by k_asm) (by k_asm) (by k_asm) (by k_asm) (by first | exact rfl | assumption) (by assumption) (by ktr_room) (by ktr_units) (trn2_con _ _ _ _ _ _ _ _ _ _ _ (by assumption) (by exact ne90_cons (by show (_:Nat) ≠ _; omega) (by assumption))) ?_); intro r' s' tl' ps' hR' ho' G' ht' F' N'; (obtain ⟨a', c', t1', t3', e1', e2'⟩ := hR'; subst e1'; subst e2'); (try simp only [List.nil_append, List.cons_append] at N'); (try dsimp only); (try k_fold)))
  (k_with "call type:object" => (k_here; (refine' objectK (by k_asm) (by k_asm) ?_); intro b' h' tk' F' N' l1'; (try k_lt l1')))
  (k_with "eval Constant int" => (refine m_int ?_))
  (k_with "eval Constant str" => (refine m_str ?_))
  (k_with "binaryOp Add int int" => (refine m_add ?_))
  (k_with "binaryOp Sub int int" => (refine m_sub ?_))
  (k_with "inplaceOp Add int int" => (refine m_iadd ?_))
  (k_with "unaryOp USub int" => (refine m_neg ?_))
  (k_with "execs nil" => (k_here; (try dsimp only); refine wpAny_execs_nil ?_))
  (k_with "execs cons" => (k_here; (try dsimp only); (try (refine gen_tok ?_; intro _)); refine execs_let ?_; intro _))
  exact True.intro
set_option maxHeartbeats 1000000 in
theorem tr2_con (w : World) (p : Program) (loose : List Str) (mean : ExcName → Option Value) (mg mb : Str → Option Value) (news : List (Addr × Obj)) (t : Tok) (ps : Array Value) (hps : TriplesOk ps.toList) (h90 : ∀ p ∈ news, p.1 ≠ 90) :
   ConT w p loose mean mg mb 76 [.str (Str.ofString "[!.]*[!.]") t] 4 90 ps news (fun r tl => ∃ t', r = .str (Str.ofString "(?s:[^.].*[^.])\\Z") t' ∧ tl = []) := by
  unfold ConT
  k_fill
  intro dp un gd cn cs a ccd cl outer A₀ base h₀ L m s Q E B F X N T hk G hd hu hret
  refine wpAny_call ?_
  k_dflt cell_enter
  k_steps
  refine' hret _ _ [] _ ?ho ?G ?ht ?F ?N ⟨_, rfl, rfl⟩
  case F => k_asm
  case N =>
    refine' cb_drop (by assumption) (fun p hp => ?_)
    rcases List.mem_cons.mp hp with rfl | hp
    · repeat (first | exact List.mem_cons_self | refine List.mem_cons_of_mem _ ?_)
    · repeat (first | exact hp | refine List.mem_cons_of_mem _ ?_)
  case ho => repeat (first | exact rfl | assumption | (refine Eq.trans (by assumption) ?_))
  case G => assumption
  case ht => assumption
theorem rowsoff_Tra2 : True := by
  k_with_none
  exact True.intro
end Mine
end
section
open PySem PySem.W PyProof.Rows PySem.Spec PySem.Calls
set_option maxRecDepth 100000
namespace Mine
/-- a place of the reading, as the ledger bears it -/
noncomputable def PlaceIn (news : List (Addr × Obj)) (v : Value) (p : Bool × List Str) : Prop :=
  ∃ a n sa m svals, v = .ref a ∧ (a, lstN [.bool p.1, .ref sa] n) ∈ news ∧ (sa, lstN svals m) ∈ news ∧ StrsAre svals p.2
noncomputable abbrev pzF (P : List (Bool × List Str)) (x : Str) (i : Nat) : Bool := ((P.getD i (false, [])).2.contains (Txt.item x (0 + (i : Int)))) != (P.getD i (false, [])).1
noncomputable def fitsB (P : List (Bool × List Str)) (x : Str) : Bool := decide (P.length = x.length) && (List.range x.length).all fun i => !pzF P x i

theorem rows_Fits : True := by
  k_with_none
  (k_with "CompSrcT" => refine Hold.out ?_)
  (k_with "compareOp Eq ref ref" => (k_here; (refine' eq_nil (by k_asm) (by exact List.mem_cons_of_mem _ List.mem_cons_self) (by exact List.mem_cons_self) (by ktr_units) ?_)))
  (k_with "compareOp In str ref" => (k_here; (refine' in_strs (by k_asm) (by (repeat (first | assumption | refine List.mem_cons_of_mem _ ?_)); done) (by assumption) ?_)))
  (k_with "subscriptTail" => (k_here; (with_reducible show wpAny _ _ (subscriptTail _ _ (Value.ref _) (Value.int _ _)) _ _ _); (refine' item_mem (by k_asm) (by (repeat (first | assumption | refine List.mem_cons_of_mem _ ?_)); done) (by first | decide | omega) (by first | decide | omega) (by first | assumption | rfl) ?_)))
  (k_with "eval ListComp" => (k_here; lct_look; k_dflt (refine LCt.ListComp_T (F₀ := by k_asm) (by with_unfolding_all rfl) (by decide) (by rfl) (by decide) (by rfl) ?_)))
  (k_with "call builtin:len" => (k_here; (with_reducible show wpAny _ _ (call (Value.builtin "len") [Value.ref _]) _ _ _); (refine' len_mem (by k_asm) (by (repeat (first | assumption | refine List.mem_cons_of_mem _ ?_)); done) (by assumption) ?_)))
  (k_with "eval Constant int" => (refine m_int ?_))
  (k_with "eval Constant str" => (refine m_str ?_))
  (k_with "binaryOp Add int int" => (refine m_add ?_))
  (k_with "binaryOp Sub int int" => (refine m_sub ?_))
  (k_with "inplaceOp Add int int" => (refine m_iadd ?_))
  (k_with "unaryOp USub int" => (refine m_neg ?_))
  (k_with "execs nil" => (k_here; (try dsimp only); refine wpAny_execs_nil ?_))
  (k_with "execs cons" => (k_here; (try dsimp only); (try (refine gen_tok ?_; intro _)); refine execs_let ?_; intro _))
  exact True.intro
set_option maxHeartbeats 8000000 in
theorem fits_con (w : World) (p : Program) (loose : List Str) (mean : ExcName → Option Value) (mg mb : Str → Option Value) (news : List (Addr × Obj)) (x : Str) (t : Tok) (hx : x.length ≤ 1000)
   (lp : Addr) (pvals : List Value) (n : Nat) (P : List (Bool × List Str)) (hl : (lp, lstN pvals n) ∈ news) (hlen : pvals.length = P.length) (hle : pvals.length ≤ 1000) (hP : ∀ (i : Nat) (v : Value) (p : Bool × List Str), pvals[i]? = some v → P[i]? = some p → PlaceIn news v p) :
   Con w p loose mean mg mb 214 [.ref lp, .str x t] 3 news (fun r tl => r = .bool (fitsB P x) ∧ tl = []) := by
  unfold Con
  k_fill
  intro dp un gd cn cs a ccd cl outer A₀ base h₀ L m s Q E B F X N T hk hd hu hret
  refine wpAny_call ?_
  (refine' code_defC ?k1 ?k2 ?k3 ?k4 ?k5 ?kA ?kF ?kK ?k6 ?k7 ?k8 ?k9 ?kB ?kD ?_ ?c2 ?c3 ?c4; (case kA => exact rfl); (case kF => exact rfl); (case kK => first | exact rfl | assumption); (case k1 => k_asm); (case k2 => k_asm); (case k3 => k_asm); (case k4 => k_asm); (case k5 => k_asm); (case k6 => k_is); (case k7 => k_is); (case k8 => ktr_room); (case k9 => exact BindsTo.of_eq rfl); (case kB => exact rfl); (case kD => decide +kernel); (case c2 => exact rfl); (case c3 => exact rfl); (case c4 => exact rfl); k_whole; intro g' L' h' tk' cells' FG' F' N' Y' B' X' T' l1; (try k_lt l1); k_cells Y'; (try simp only [List.cons_append, List.nil_append] at N'); (try dsimp only); (try k_lift B'); (try k_fold))
  k_steps
  · refine hret _ _ _ [] (by k_asm) (cb_drop (by assumption) (fun p hp => by repeat (first | exact hp | refine List.mem_cons_of_mem _ ?_))) ⟨?_, rfl⟩
    have : ¬ P.length = x.length := by omega
    simp [fitsB, this]
  · refine Hold.mk ?_
    refine' LCt.CompSrcT.range (by rfl) ?F ?N ?R ?S (range_len _) ?Z ?_
    (case F => k_asm)
    (case N => k_asm)
    (case R => assumption)
    (case S => exact small_one (by omega) (by omega) (by omega) (by omega))
    (case Z => (rw [sizeLine_eq]; omega))
    intro g2'
    refine rest_all (pzF P x) trivial rfl rfl (by decide) ?_ ?_
    · intro i hi ys v I oI C oC D m₂ h tk E' hv hC hvx F' N'
      obtain ⟨t9, hv9⟩ := hv
      subst hv9
      have hip : i < pvals.length := by omega
      have hiP : i < P.length := by omega
      obtain ⟨a9, n9, sa9, m9, sv9, e9, ha9, hsa9, hst9⟩ := hP i pvals[i] P[i] (List.getElem?_eq_getElem hip) (List.getElem?_eq_getElem hiP)
      have hvi : pvals[(0 + (i : Int)).toNat]? = some (.ref a9) := by
        rw [show (0 + (i : Int)).toNat = i by omega, List.getElem?_eq_getElem hip, e9]
      have hgd : P.getD i (false, []) = P[i] := by simp [List.getD, hiP]
      k_steps
      refine TestEnd.intro ?_ (by k_asm) (by k_asm) (fun _ hp => hp)
      simp only [pzF, hgd]
    · intro ys hys
      k_steps
      refine hret _ _ _ [] (by k_asm) (cb_drop (by assumption) (fun p hp => by repeat (first | exact hp | refine List.mem_cons_of_mem _ ?_))) ⟨?_, rfl⟩
      have hPx : P.length = x.length := by omega
      congr 1
      rw [Bool.eq_iff_iff, List.isEmpty_iff, hys]
      simp [fitsB, hPx]
theorem rowsoff_Fits : True := by
  k_with_none
  exact True.intro
end Mine
end
section
open PySem PySem.W PyProof.Rows PySem.Spec PySem.Calls
set_option maxRecDepth 100000
namespace Mine
/-- a place newly made: its list and its signs' list, younger than all of news -/
noncomputable def PlaceNew (news tl : List (Addr × Obj)) (r : Value) (here : Bool) (ss : List Str) : Prop :=
  ∃ a sa n m svals, r = .ref a ∧ tl = [(a, lstN [.bool here, .ref sa] n), (sa, lstN svals m)] ∧ StrsAre svals ss ∧ (@LT.lt Nat _ sa a) ∧ ∀ p ∈ news, p.1 < sa
theorem rows_Set1 : True := by
  k_with_none
  (k_with "exec While Compare" => (k_here; k_dflt (refine whl_start 5 ?_)))
  (k_with "subscriptTail Name Slice str ref" => (k_here; (first | (refine' sliceE_ns (s := ⟨_, _, _, _, _⟩) (by kxw_text) (by k_asm) (by k_asm) (by decide) ?_) | (refine' sliceE_sn (s := ⟨_, _, _, _, _⟩) (by kxw_text) (by k_asm) (by k_asm) (by decide) ?_) | (refine' sliceE_ss (s := ⟨_, _, _, _, _⟩) (by kxw_text) (by k_asm) (by k_asm) (by decide) ?_)); intro h' t' k' F' N'))
  (k_with "subscriptTail Name BinOp str int" => (k_here; (refine' itemM (by kxw_text) (by decide) (by decide) (by decide) ?_)))
  (k_with "subscriptTail Name Name str int" => (k_here; (refine' itemM (by kxw_text) (by decide) (by decide) (by decide) ?_)))
  (k_with "eval Constant int" => (refine m_int ?_))
  (k_with "eval Constant str" => (refine m_str ?_))
  (k_with "binaryOp Add int int" => (refine m_add ?_))
  (k_with "binaryOp Sub int int" => (refine m_sub ?_))
  (k_with "inplaceOp Add int int" => (refine m_iadd ?_))
  (k_with "unaryOp USub int" => (refine m_neg ?_))
  (k_with "execs nil" => (k_here; (try dsimp only); refine wpAny_execs_nil ?_))
  (k_with "execs cons" => (k_here; (try dsimp only); (try (refine gen_tok ?_; intro _)); refine execs_let ?_; intro _))
  exact True.intro
theorem PlaceNew.mk2 {news : List (Addr × Obj)} {a sa : Addr} {n m : Nat} {svals : List Value} {b here : Bool} {ss : List Str} (hb : b = here) (h3 : StrsAre svals ss) (h4 : @LT.lt Nat _ sa a) (h5 : ∀ p ∈ news, p.1 < sa) :
    PlaceNew news [(a, lstN [.bool b, .ref sa] n), (sa, lstN svals m)] (.ref a) here ss := by
  subst hb
  exact ⟨a, sa, n, m, svals, rfl, rfl, h3, h4, h5⟩
theorem lt_news {I : Nat} {news : List (Addr × Obj)} (h : AllLt I news) : ∀ p ∈ news, p.1 < I := allLt_mem h
theorem PlaceIn.mk2 {tl : List (Addr × Obj)} {a sa : Addr} {n m : Nat} {svals : List Value} {b here : Bool} {ss : List Str} (h1 : (a, lstN [.bool b, .ref sa] n) ∈ tl) (hb : b = here) (h2 : (sa, lstN svals m) ∈ tl) (h3 : StrsAre svals ss) : PlaceIn tl (.ref a) (here, ss) := by
  subst hb
  exact ⟨a, n, sa, m, svals, rfl, h1, h2, h3⟩
set_option maxHeartbeats 2000000 in
theorem set1_con (w : World) (p : Program) (loose : List Str) (mean : ExcName → Option Value) (mg mb : Str → Option Value) (news : List (Addr × Obj)) (t : Tok) :
   Con w p loose mean mg mb 202 [.str (Str.ofString "^.") t] 3 news (fun r tl => PlaceNew news tl r false [Str.ofString "."]) := by
  unfold Con
  k_fill
  intro dp un gd cn cs a ccd cl outer A₀ base h₀ L m s Q E B F X N T hk hd hu hret
  refine wpAny_call ?_
  first | k_dflt cell_enter | (refine' code_defC ?k1 ?k2 ?k3 ?k4 ?k5 ?kA ?kF ?kK ?k6 ?k7 ?k8 ?k9 ?kB ?kD ?_ ?c2 ?c3 ?c4; (case kA => exact rfl); (case kF => exact rfl); (case kK => first | exact rfl | assumption); (case k1 => k_asm); (case k2 => k_asm); (case k3 => k_asm); (case k4 => k_asm); (case k5 => k_asm); (case k6 => k_is); (case k7 => k_is); (case k8 => ktr_room); (case k9 => exact BindsTo.of_eq rfl); (case kB => exact rfl); (case kD => decide +kernel); (case c2 => exact rfl); (case c3 => exact rfl); (case c4 => exact rfl); k_whole; intro g' L' h' tk' cells' FG' F' N' Y' B' X' T' l1; (try k_lt l1); k_cells Y'; (try simp only [List.cons_append, List.nil_append] at N'); (try dsimp only); (try k_lift B'); (try k_fold))
  k_steps
  refine' hret _ _ _ [(_, lstN [.bool _, .ref _] _), (_, lstN [.str _ _] _)] ?F ?N (PlaceNew.mk2 ?hb (.cons _ _ .nil) ?o1 ?o2)
  case F => k_asm
  case N =>
    refine' cb_drop (by assumption) (fun p hp => ?_)
    rcases List.mem_cons.mp hp with rfl | hp
    · repeat (first | exact List.mem_cons_self | refine List.mem_cons_of_mem _ ?_)
    · rcases List.mem_cons.mp hp with rfl | hp
      · repeat (first | exact List.mem_cons_self | refine List.mem_cons_of_mem _ ?_)
      · repeat (first | exact hp | refine List.mem_cons_of_mem _ ?_)
  case hb => decide +kernel
  case o1 => (show (_ : Nat) < _; omega)
  case o2 => first | assumption | exact lt_news (by assumption) | exact fun p hp => (by assumption : ∀ p ∈ news, p.1 < _) p hp
theorem rowsoff_Set1 : True := by
  k_with_none
  exact True.intro
end Mine
end
section
open PySem PySem.W PyProof.Rows PySem.Spec PySem.Calls
set_option maxRecDepth 100000
namespace Mine
open PyProof.Rows.LCg in
noncomputable def EltEnd (h₀ : Heap) (L : Addr) (m : Str → Option Value) (s₁ : Shared) (led : List (Addr × Obj)) (x : Str) (y : Value) (s' : Shared) : Prop :=
  (∃ t, y = .str x t) ∧ ∃ h' tk', s' = { s₁ with heap := h', toks := tk' } ∧ Fr h₀ L h' m ∧ News h₀ L h' led
theorem rows_Set2 : True := by
  k_with_none
  (k_with "exec While Compare" => (k_here; k_dflt (refine whl_start 5 ?_)))
  (k_with "subscriptTail Name Slice str ref" => (k_here; (first | (refine' sliceE_ns (s := ⟨_, _, _, _, _⟩) (by kxw_text) (by k_asm) (by k_asm) (by decide) ?_) | (refine' sliceE_sn (s := ⟨_, _, _, _, _⟩) (by kxw_text) (by k_asm) (by k_asm) (by decide) ?_) | (refine' sliceE_ss (s := ⟨_, _, _, _, _⟩) (by kxw_text) (by k_asm) (by k_asm) (by decide) ?_)); intro h' t' k' F' N'))
  (k_with "subscriptTail Name BinOp str int" => (k_here; (refine' itemM (by kxw_text) (by decide) (by decide) (by decide) ?_)))
  (k_with "subscriptTail Name Name str int" => (k_here; (refine' itemM (by kxw_text) (by decide) (by decide) (by decide) ?_)))
  (k_with "eval Constant int" => (refine m_int ?_))
  (k_with "eval Constant str" => (refine m_str ?_))
  (k_with "binaryOp Add int int" => (refine m_add ?_))
  (k_with "binaryOp Sub int int" => (refine m_sub ?_))
  (k_with "inplaceOp Add int int" => (refine m_iadd ?_))
  (k_with "unaryOp USub int" => (refine m_neg ?_))
  (k_with "execs nil" => (k_here; (try dsimp only); refine wpAny_execs_nil ?_))
  (k_with "execs cons" => (k_here; (try dsimp only); (try (refine gen_tok ?_; intro _)); refine execs_let ?_; intro _))
  exact True.intro
theorem EltEnd.intro {h₀ : Heap} {L : Addr} {m : Str → Option Value} {s₁ : Shared} {led all : List (Addr × Obj)} {x y : Str} {t : Tok} {h' : Heap} {tk' : Nat} (e : y = x) (F : Fr h₀ L h' m) (N : News h₀ L h' all) (sub : ∀ p ∈ led, p ∈ all) :
    EltEnd h₀ L m s₁ led x (.str y t) { s₁ with heap := h', toks := tk' } := ⟨⟨t, by rw [e]⟩, h', tk', rfl, F, fun p hp => N p (sub p hp)⟩
open PyProof.Rows.LCg in
theorem rest_str {prog : Program} {w : World} {A : Around} {h₀ : Heap} {L : Addr} {m : Str → Option Value} {env : Env} {elt : Expr} {x : Str} {scope : Scope} {cl : List (Str × Addr)} {s : Shared} {S : List (Addr × Obj) → Prop} {P : Nat → Value → Prop}
    {Fin : List Value → List (Addr × Obj) → Prop} {n : Nat} {news : List (Addr × Obj)} (f : Nat → Str) (hS : S news)
    (turn : ∀ i, i < n → ∀ (ys : List Value) (v : Value) (I : Addr) (oI : Obj) (C : Addr) (oC : Obj) (D : Addr) (m₂ : Str → Option Value) (h : Heap) (tk : Nat) (E' : Value → Shared → Prop), P i v → NsObj oC m₂ → m₂ x = some v → Fr h₀ L h m →
      News h₀ L h ((I, oI) :: (C, oC) :: (D, lst ys) :: news) →
      wpAny (model prog w) A (eval elt (compEnvC scope cl C env)) (EltEnd h₀ L m { s with heap := h, toks := tk } ((I, oI) :: (C, oC) :: (D, lst ys) :: news) (f i)) E' { s with heap := h, toks := tk })
    (fin : ∀ ys, StrsAre ys ((List.range n).map f) → Fin ys news) :
    CompRest prog w A h₀ L m env elt x scope cl s S P Fin n 0 [] news := by
  have all : ∀ k i ys, i + k = n → StrsAre ys ((List.range i).map f) → CompRest prog w A h₀ L m env elt x scope cl s S P Fin k i ys news := by
    intro k
    induction k with
    | zero =>
      intro i ys hi hy
      have : i = n := by omega
      subst this
      exact fin ys hy
    | succ k ih =>
      intro i ys hi hy
      intro v I oI C oC D m₂ h tk E' hP hC hv F N off ne
      refine wpAny_mono (turn i (by omega) ys v I oI C oC D m₂ h tk E' hP hC hv F N) (fun y s' he => ?_) fun _ _ e => e
      obtain ⟨⟨t, rfl⟩, h', tk', rfl, F2, N2⟩ := he
      refine CompEnd.intro F2 N2 news (fun _ hp => hp) off hS (ih (i + 1) (ys ++ [.str (f i) t]) (by omega) ?_)
      rw [List.range_succ, List.map_append]
      exact strsAre_snoc hy
  exact all n 0 [] (by omega) .nil
theorem rows_Set2_1 : True := by
  k_with_none
  (k_with "eval ListComp" => (k_here; k_dflt (refine LCg.ListComp_U (F₀ := by k_asm) (by with_unfolding_all rfl) (by decide) (by rfl) (by decide) (by rfl) ?_)))
  (k_with "exec While Compare" => (k_here; k_dflt (refine whl_start 5 ?_)))
  (k_with "subscriptTail Name Slice str ref" => (k_here; (first | (refine' sliceE_ns (s := ⟨_, _, _, _, _⟩) (by kxw_text) (by k_asm) (by k_asm) (by decide) ?_) | (refine' sliceE_sn (s := ⟨_, _, _, _, _⟩) (by kxw_text) (by k_asm) (by k_asm) (by decide) ?_) | (refine' sliceE_ss (s := ⟨_, _, _, _, _⟩) (by kxw_text) (by k_asm) (by k_asm) (by decide) ?_)); intro h' t' k' F' N'))
  (k_with "subscriptTail Name BinOp str int" => (k_here; (refine' itemM (by kxw_text) (by decide) (by decide) (by decide) ?_)))
  (k_with "subscriptTail Name Name str int" => (k_here; (refine' itemM (by kxw_text) (by decide) (by decide) (by decide) ?_)))
  (k_with "eval Constant int" => (refine m_int ?_))
  (k_with "eval Constant str" => (refine m_str ?_))
  (k_with "binaryOp Add int int" => (refine m_add ?_))
  (k_with "binaryOp Sub int int" => (refine m_sub ?_))
  (k_with "inplaceOp Add int int" => (refine m_iadd ?_))
  (k_with "unaryOp USub int" => (refine m_neg ?_))
  (k_with "execs nil" => (k_here; (try dsimp only); refine wpAny_execs_nil ?_))
  (k_with "execs cons" => (k_here; (try dsimp only); (try (refine gen_tok ?_; intro _)); refine execs_let ?_; intro _))
  exact True.intro
theorem chrE {prog : Program} {w : World} {A : Around} {E : Value → Shared → Prop} {s : Shared} {i : Int} {n : Nat} {t : Tok} {Q : Value → Shared → Prop} (e : i = n) (hn : n ≤ 1000) (h : Q (.str ⟨#[n]⟩ s.toks) { s with toks := s.toks + 1 }) :
    wpAny (model prog w) A (call (.builtin "chr") [.int i t]) Q E s := by
  subst e
  exact chr_of_range (by omega) (by omega) (by simpa using h)
noncomputable def digs10 : List Str := (List.range 10).map fun i => (⟨#[48 + i]⟩ : Str)
theorem rows_Set2_2 : True := by
  k_with_none
  (k_with "EltEnd" => refine Hold.out ?_)
  (k_with "CompSrc" => refine Hold.out ?_)
  (k_with "call builtin:list.extend" => (k_here; k_dflt (refine' kl_extend (by k_asm) (by k_asm) (by k_mem) (by exact List.nil_append _) ?_ (by k_upd) (by exact Bool.false_ne_true) (by simp) (by (simp; rw [sizeLine_eq]; omega)) ?_; (first | omega | (simp only [List.toList_toArray]; omega))); intro h' F' N'; (try dsimp only at N')))
  (k_with "call builtin:chr" => (refine' chrE (by assumption) (by omega) ?_))
  (k_with "eval ListComp" => (k_here; k_dflt (refine LCg.ListComp_U (F₀ := by k_asm) (by with_unfolding_all rfl) (by decide) (by rfl) (by decide) (by rfl) ?_)))
  (k_with "exec While Compare" => (k_here; k_dflt (refine whl_start 5 ?_)))
  (k_with "subscriptTail Name Slice str ref" => (k_here; (first | (refine' sliceE_ns (s := ⟨_, _, _, _, _⟩) (by kxw_text) (by k_asm) (by k_asm) (by decide) ?_) | (refine' sliceE_sn (s := ⟨_, _, _, _, _⟩) (by kxw_text) (by k_asm) (by k_asm) (by decide) ?_) | (refine' sliceE_ss (s := ⟨_, _, _, _, _⟩) (by kxw_text) (by k_asm) (by k_asm) (by decide) ?_)); intro h' t' k' F' N'))
  (k_with "subscriptTail Name BinOp str int" => (k_here; (refine' itemM (by kxw_text) (by decide) (by decide) (by decide) ?_)))
  (k_with "subscriptTail Name Name str int" => (k_here; (refine' itemM (by kxw_text) (by decide) (by decide) (by decide) ?_)))
  (k_with "eval Constant int" => (refine m_int ?_))
  (k_with "eval Constant str" => (refine m_str ?_))
  (k_with "binaryOp Add int int" => (refine m_add ?_))
  (k_with "binaryOp Sub int int" => (refine m_sub ?_))
  (k_with "inplaceOp Add int int" => (refine m_iadd ?_))
  (k_with "unaryOp USub int" => (refine m_neg ?_))
  (k_with "execs nil" => (k_here; (try dsimp only); refine wpAny_execs_nil ?_))
  (k_with "execs cons" => (k_here; (try dsimp only); (try (refine gen_tok ?_; intro _)); refine execs_let ?_; intro _))
  exact True.intro
set_option maxHeartbeats 2000000 in
theorem set2_con (w : World) (p : Program) (loose : List Str) (mean : ExcName → Option Value) (mg mb : Str → Option Value) (news : List (Addr × Obj)) (t : Tok) :
   Con w p loose mean mg mb 202 [.str (Str.ofString "0-9") t] 3 news (fun r tl => PlaceNew news tl r true digs10) := by
  unfold Con
  k_fill
  intro dp un gd cn cs a ccd cl outer A₀ base h₀ L m s Q E B F X N T hk hd hu hret
  refine wpAny_call ?_
  first | k_dflt cell_enter | (refine' code_defC ?k1 ?k2 ?k3 ?k4 ?k5 ?kA ?kF ?kK ?k6 ?k7 ?k8 ?k9 ?kB ?kD ?_ ?c2 ?c3 ?c4; (case kA => exact rfl); (case kF => exact rfl); (case kK => first | exact rfl | assumption); (case k1 => k_asm); (case k2 => k_asm); (case k3 => k_asm); (case k4 => k_asm); (case k5 => k_asm); (case k6 => k_is); (case k7 => k_is); (case k8 => ktr_room); (case k9 => exact BindsTo.of_eq rfl); (case kB => exact rfl); (case kD => decide +kernel); (case c2 => exact rfl); (case c3 => exact rfl); (case c4 => exact rfl); k_whole; intro g' L' h' tk' cells' FG' F' N' Y' B' X' T' l1; (try k_lt l1); k_cells Y'; (try simp only [List.cons_append, List.nil_append] at N'); (try dsimp only); (try k_lift B'); (try k_fold))
  k_steps
  refine Hold.mk ?_
  refine' LCg.CompSrc.range (n := 10) (by rfl) ?F ?N ?R ?S ?hn ?Z ?_
  case F => k_asm
  case N => k_asm
  case R => assumption
  case S => decide +kernel
  case hn => decide +kernel
  case Z => rw [sizeLine_eq]; omega
  intro g2'
  refine rest_str (fun i => (⟨#[48 + i]⟩ : Str)) trivial ?_ ?_
  · intro i hi ys v I oI C oC D m₂ h tk E' hv hC hvx F' N'
    obtain ⟨t9, hv9⟩ := hv
    subst hv9
    have e48 : ((Str.ofString "0").cps.getD 0 0) = 48 := by decide +kernel
    have hi48 : (((Str.ofString "0").cps.getD 0 0 : Nat) : Int) + (i : Int) = ((48 + i : Nat) : Int) := by rw [e48]; omega
    k_steps
    refine Hold.mk ?_
    exact EltEnd.intro rfl (by k_asm) (by k_asm) (fun _ hp => hp)
  · intro ys hys
    have hyl := strsAre_len hys
    simp only [List.length_map, List.length_range] at hyl
    k_steps
    refine' hret _ _ _ [(_, lstN [.bool _, .ref _] _), (_, lstN ys _)] ?F ?N (PlaceNew.mk2 ?hb hys ?o1 ?o2)
    case F => k_asm
    case N =>
      refine' cb_drop (by assumption) (fun p hp => ?_)
      rcases List.mem_cons.mp hp with rfl | hp
      · repeat (first | exact List.mem_cons_self | refine List.mem_cons_of_mem _ ?_)
      · rcases List.mem_cons.mp hp with rfl | hp
        · repeat (first | exact List.mem_cons_self | refine List.mem_cons_of_mem _ ?_)
        · repeat (first | exact hp | refine List.mem_cons_of_mem _ ?_)
    case hb => decide +kernel
    case o1 => (show (_ : Nat) < _; omega)
    case o2 => first | assumption | exact lt_news (by assumption) | exact fun p hp => (by assumption : ∀ p ∈ news, p.1 < _) p hp
theorem rowsoff_Set2 : True := by
  k_with_none
  exact True.intro
end Mine
end
section
open PySem PySem.W PyProof.Rows PySem.Spec PySem.Calls
set_option maxRecDepth 100000
namespace Mine
noncomputable abbrev tupN (vs : List Value) (n : Nat) : Obj := { cls := .type "tuple", data := .seq vs.toArray n }
noncomputable def PlacesIn (news : List (Addr × Obj)) (lp : Addr) (P : List (Bool × List Str)) : Prop :=
  ∃ (pvals : List Value) (n : Nat), (lp, lstN pvals n) ∈ news ∧ pvals.length = P.length ∧ pvals.length ≤ 1000 ∧ ∀ (i : Nat) (v : Value) (p : Bool × List Str), pvals[i]? = some v → P[i]? = some p → PlaceIn news v p
theorem rows_Takes : True := by
  k_with_none
  (k_with "call ref" => (k_here; (with_reducible show wpAny _ _ (call (Value.ref 214) _) _ _ _); (refine' con_useN (by k_asm) (by k_asm) (by k_asm) (by k_asm) (by k_asm) (by first | exact rfl | assumption) (by ktr_room) (by ktr_units) (fits_con _ _ _ _ _ _ _ _ _ (by first | assumption | omega) _ _ _ _ (by assumption) (by assumption) (by assumption) (by assumption)) ?_); intro r' h' tk' tl' hR' F' N'; (obtain ⟨e1, e2⟩ := hR'; subst e1; subst e2); (try simp only [List.nil_append] at N'); (try dsimp only); (try k_fold)))
  (k_with "call builtin:len" => (k_here; (with_reducible show wpAny _ _ (call (Value.builtin "len") [Value.ref _]) _ _ _); (refine' len_mem (by k_asm) (by (repeat (first | assumption | refine List.mem_cons_of_mem _ ?_)); done) (by assumption) ?_)))
  (k_with "eval Constant int" => (refine m_int ?_))
  (k_with "eval Constant str" => (refine m_str ?_))
  (k_with "binaryOp Add int int" => (refine m_add ?_))
  (k_with "binaryOp Sub int int" => (refine m_sub ?_))
  (k_with "inplaceOp Add int int" => (refine m_iadd ?_))
  (k_with "unaryOp USub int" => (refine m_neg ?_))
  (k_with "execs nil" => (k_here; (try dsimp only); refine wpAny_execs_nil ?_))
  (k_with "execs cons" => (k_here; (try dsimp only); (try (refine gen_tok ?_; intro _)); refine execs_let ?_; intro _))
  exact True.intro
set_option maxHeartbeats 8000000 in
theorem takes_none_con (w : World) (p : Program) (loose : List Str) (mean : ExcName → Option Value) (mg mb : Str → Option Value) (news : List (Addr × Obj)) (x : Str) (t : Tok) (hx : x.length ≤ 1000)
   (rd ah : Addr) (k : Nat) (P : List (Bool × List Str)) (pvals : List Value) (n : Nat) (hr : (rd, tupN [.ref ah, .none] k) ∈ news) (hl : (ah, lstN pvals n) ∈ news) (hlen : pvals.length = P.length) (hle : pvals.length ≤ 1000) (hP : ∀ (i : Nat) (v : Value) (p : Bool × List Str), pvals[i]? = some v → P[i]? = some p → PlaceIn news v p) :
   Con w p loose mean mg mb 221 [.ref rd, .str x t] 5 news (fun r tl => r = .bool (fitsB P x) ∧ tl = []) := by
  unfold Con
  k_fill
  intro dp un gd cn cs a ccd cl outer A₀ base h₀ L m s Q E B F X N T hk hd hu hret
  refine wpAny_call ?_
  k_dflt cell_enter
  k_steps
  all_goals exact hret _ _ _ [] (by k_asm) (by k_asm) ⟨rfl, rfl⟩
noncomputable def takesB (P1 P2 : List (Bool × List Str)) (x : Str) : Bool :=
  !decide (x.length < P1.length + P2.length) && (fitsB P1 (Txt.slice x none (some (P1.length : Int))) && fitsB P2 (Txt.slice x (some ((x.length : Int) - (P2.length : Int))) none))
set_option maxHeartbeats 8000000 in
theorem takes_some_con (w : World) (p : Program) (loose : List Str) (mean : ExcName → Option Value) (mg mb : Str → Option Value) (news : List (Addr × Obj)) (x : Str) (t : Tok) (hx : x.length ≤ 1000)
   (rd ah bh : Addr) (k : Nat) (P1 P2 : List (Bool × List Str)) (pv1 pv2 : List Value) (n1 n2 : Nat) (hr : (rd, tupN [.ref ah, .ref bh] k) ∈ news)
   (hl : (ah, lstN pv1 n1) ∈ news) (hlen : pv1.length = P1.length) (hle : pv1.length ≤ 1000) (hP : ∀ (i : Nat) (v : Value) (p : Bool × List Str), pv1[i]? = some v → P1[i]? = some p → PlaceIn news v p)
   (hl2 : (bh, lstN pv2 n2) ∈ news) (hlen2 : pv2.length = P2.length) (hle2 : pv2.length ≤ 1000) (hP2 : ∀ (i : Nat) (v : Value) (p : Bool × List Str), pv2[i]? = some v → P2[i]? = some p → PlaceIn news v p) :
   Con w p loose mean mg mb 221 [.ref rd, .str x t] 5 news (fun r tl => r = .bool (takesB P1 P2 x) ∧ tl = []) := by
  unfold Con
  k_fill
  intro dp un gd cn cs a ccd cl outer A₀ base h₀ L m s Q E B F X N T hk hd hu hret
  refine wpAny_call ?_
  k_dflt cell_enter
  k_steps
  all_goals (
    refine hret _ _ _ [] (by k_asm) (by k_asm) ⟨?_, rfl⟩
    simp only [takesB, ← hlen, ← hlen2]
    first
      | (have h1 : x.length < pv1.length + pv2.length := by omega
         simp only [h1, decide_true, Bool.not_true, Bool.false_and]
         done)
      | (have h1 : ¬ x.length < pv1.length + pv2.length := by omega
         rename fitsB P1 _ = _ => e9
         simp only [h1, decide_false, Bool.not_false, Bool.true_and, e9, Bool.false_and]
         done))
theorem rowsoff_Takes : True := by
  k_with_none
  exact True.intro
end Mine
end
section
open PySem PySem.W PyProof.Rows PySem.Spec PySem.Calls
set_option maxRecDepth 100000
namespace Mine
/-- a reading, as the ledger bears it -/
noncomputable def ReadIn (news : List (Addr × Obj)) (v : Value) (P1 : List (Bool × List Str)) (P2 : Option (List (Bool × List Str))) : Prop :=
  ∃ rd k ah, v = .ref rd ∧ PlacesIn news ah P1 ∧ (match P2 with | none => (rd, tupN [.ref ah, .none] k) ∈ news | some P2 => ∃ bh, (rd, tupN [.ref ah, .ref bh] k) ∈ news ∧ PlacesIn news bh P2)
/-- all of tl is younger than all of news -/
noncomputable def Younger (news tl : List (Addr × Obj)) : Prop := ∀ q ∈ tl, ∀ p ∈ news, @LT.lt Nat _ p.1 q.1
theorem Younger.nil {news : List (Addr × Obj)} : Younger news [] := fun _ h => nomatch h
theorem Younger.cons {news tl : List (Addr × Obj)} {a : Addr} {o : Obj} (h : ∀ p ∈ news, @LT.lt Nat _ p.1 a) (r : Younger news tl) : Younger news ((a, o) :: tl) := fun q hq p hp => by
  rcases List.mem_cons.mp hq with rfl | hq
  · exact h p hp
  · exact r q hq p hp
theorem place_one {tl : List (Addr × Obj)} {a sa : Addr} {n m : Nat} {sv : List Value} {b : Bool} {ss : List Str} (h1 : (a, lstN [.bool b, .ref sa] n) ∈ tl) (h2 : (sa, lstN sv m) ∈ tl) (h3 : StrsAre sv ss) : PlaceIn tl (.ref a) (b, ss) := ⟨a, n, sa, m, sv, rfl, h1, h2, h3⟩
theorem places_one {tl : List (Addr × Obj)} {l a : Addr} {n : Nat} {p : Bool × List Str} (h : (l, lstN [.ref a] n) ∈ tl) (hp : PlaceIn tl (.ref a) p) : PlacesIn tl l [p] :=
  ⟨[.ref a], n, h, rfl, by simp, fun i v q hv hq => by
    cases i with
    | zero => simp at hv hq; subst hv hq; exact hp
    | succ i => simp at hv⟩
theorem places_nil {tl : List (Addr × Obj)} {l : Addr} {n : Nat} (h : (l, lstN [] n) ∈ tl) : PlacesIn tl l [] := ⟨[], n, h, rfl, by simp, fun i v q hv _ => by simp at hv⟩
theorem read_one {D l a sa : Addr} {k n1 n2 m : Nat} {sv : List Value} {b : Bool} {ss : List Str} (h3 : StrsAre sv ss) :
    ReadIn [(D, tupN [.ref l, .none] k), (l, lstN [.ref a] n1), (a, lstN [.bool b, .ref sa] n2), (sa, lstN sv m)] (.ref D) [(b, ss)] none :=
  ⟨D, k, l, rfl, places_one (.tail _ (.head _)) (place_one (.tail _ (.tail _ (.head _))) (.tail _ (.tail _ (.tail _ (.head _)))) h3), .head _⟩
end Mine
end
section
open PySem PySem.W PyProof.Rows PySem.Spec PySem.Calls
set_option maxRecDepth 100000
namespace Mine
theorem rows_Rd1 : True := by
  k_with_none
  (k_with "call ref" => (k_here; (with_reducible show wpAny _ _ (call (Value.ref 202) _) _ _ _); (refine' con_useN (by k_asm) (by k_asm) (by k_asm) (by k_asm) (by k_asm) (by first | exact rfl | assumption) (by ktr_room) (by ktr_units) (set1_con _ _ _ _ _ _ _ _) ?_); intro r' h' tk' tl' hR' F' N'; (obtain ⟨a', sa', n', m', sv', e1', e2', hs', l1', l2'⟩ := hR'; subst e1'; subst e2'); (try simp only [List.nil_append, List.cons_append] at N'); (try k_lt l2'); (try dsimp only); (try k_fold)))
  (k_with "exec While Compare" => (k_here; k_dflt (refine whl_start 5 ?_)))
  (k_with "subscriptTail Name Slice str ref" => (k_here; (first | (refine' sliceE_ns (s := ⟨_, _, _, _, _⟩) (by kxw_text) (by k_asm) (by k_asm) (by decide) ?_) | (refine' sliceE_sn (s := ⟨_, _, _, _, _⟩) (by kxw_text) (by k_asm) (by k_asm) (by decide) ?_) | (refine' sliceE_ss (s := ⟨_, _, _, _, _⟩) (by kxw_text) (by k_asm) (by k_asm) (by decide) ?_)); intro h' t' k' F' N'))
  (k_with "subscriptTail Name BinOp str int" => (k_here; (refine' itemM (by kxw_text) (by decide) (by decide) (by decide) ?_)))
  (k_with "subscriptTail Name Name str int" => (k_here; (refine' itemM (by kxw_text) (by decide) (by decide) (by decide) ?_)))
  (k_with "eval Constant int" => (refine m_int ?_))
  (k_with "eval Constant str" => (refine m_str ?_))
  (k_with "binaryOp Add int int" => (refine m_add ?_))
  (k_with "binaryOp Sub int int" => (refine m_sub ?_))
  (k_with "inplaceOp Add int int" => (refine m_iadd ?_))
  (k_with "unaryOp USub int" => (refine m_neg ?_))
  (k_with "execs nil" => (k_here; (try dsimp only); refine wpAny_execs_nil ?_))
  (k_with "execs cons" => (k_here; (try dsimp only); (try (refine gen_tok ?_; intro _)); refine execs_let ?_; intro _))
  exact True.intro
set_option maxHeartbeats 2000000 in
theorem rd1_con (w : World) (p : Program) (loose : List Str) (mean : ExcName → Option Value) (mg mb : Str → Option Value) (news : List (Addr × Obj)) (t : Tok) :
   Con w p loose mean mg mb 209 [.str (Str.ofString "(?s:[^.])\\Z") t] 6 news (fun r tl => ReadIn tl r [(false, [Str.ofString "."])] none ∧ Younger news tl) := by
  unfold Con
  k_fill
  intro dp un gd cn cs a ccd cl outer A₀ base h₀ L m s Q E B F X N T hk hd hu hret
  refine wpAny_call ?_
  first | k_dflt cell_enter | (refine' code_defC ?k1 ?k2 ?k3 ?k4 ?k5 ?kA ?kF ?kK ?k6 ?k7 ?k8 ?k9 ?kB ?kD ?_ ?c2 ?c3 ?c4; (case kA => exact rfl); (case kF => exact rfl); (case kK => first | exact rfl | assumption); (case k1 => k_asm); (case k2 => k_asm); (case k3 => k_asm); (case k4 => k_asm); (case k5 => k_asm); (case k6 => k_is); (case k7 => k_is); (case k8 => ktr_room); (case k9 => exact BindsTo.of_eq rfl); (case kB => exact rfl); (case kD => decide +kernel); (case c2 => exact rfl); (case c3 => exact rfl); (case c4 => exact rfl); k_whole; intro g' L' h' tk' cells' FG' F' N' Y' B' X' T' l1; (try k_lt l1); k_cells Y'; (try simp only [List.cons_append, List.nil_append] at N'); (try dsimp only); (try k_lift B'); (try k_fold))
  k_steps
  refine' hret _ _ _ [(_, tupN [.ref _, .none] _), (_, lstN [.ref _] _), (_, lstN [.bool _, .ref _] _), (_, lstN _ _)] ?F ?N ⟨read_one (by assumption), ?Y⟩
  case F => k_asm
  case N =>
    refine' cb_drop (by assumption) (fun p hp => ?_)
    rcases List.mem_cons.mp hp with rfl | hp
    · repeat (first | exact List.mem_cons_self | refine List.mem_cons_of_mem _ ?_)
    · rcases List.mem_cons.mp hp with rfl | hp
      · repeat (first | exact List.mem_cons_self | refine List.mem_cons_of_mem _ ?_)
      · rcases List.mem_cons.mp hp with rfl | hp
        · repeat (first | exact List.mem_cons_self | refine List.mem_cons_of_mem _ ?_)
        · rcases List.mem_cons.mp hp with rfl | hp
          · repeat (first | exact List.mem_cons_self | refine List.mem_cons_of_mem _ ?_)
          · repeat (first | exact hp | refine List.mem_cons_of_mem _ ?_)
  case Y =>
    refine Younger.cons ?_ (Younger.cons ?_ (Younger.cons ?_ (Younger.cons ?_ Younger.nil)))
    all_goals first | (first | assumption | exact allLt_mem (by assumption) | exact allLt_mem (And.right (by assumption)) | exact allLt_mem (And.right (And.right (by assumption))) | exact allLt_mem (And.right (And.right (And.right (by assumption)))) | exact allLt_mem (And.right (And.right (And.right (And.right (by assumption))))) | exact allLt_mem (And.right (And.right (And.right (And.right (And.right (by assumption))))))) | (intro p hp; refine' Nat.lt_trans ?g ?h; rotate_left; (case h => assumption); revert p; (first | assumption | exact allLt_mem (by assumption) | exact allLt_mem (And.right (by assumption)) | exact allLt_mem (And.right (And.right (by assumption))) | exact allLt_mem (And.right (And.right (And.right (by assumption)))) | exact allLt_mem (And.right (And.right (And.right (And.right (by assumption))))) | exact allLt_mem (And.right (And.right (And.right (And.right (And.right (by assumption))))))))
theorem rowsoff_Rd1 : True := by
  k_with_none
  exact True.intro
end Mine
end
section
open PySem PySem.W PyProof.Rows PySem.Spec PySem.Calls
set_option maxRecDepth 100000
namespace Mine
theorem rows_Rd2 : True := by
  k_with_none
  (k_with "call ref" => (k_here; (with_reducible show wpAny _ _ (call (Value.ref 202) _) _ _ _); (refine' con_useN (by k_asm) (by k_asm) (by k_asm) (by k_asm) (by k_asm) (by first | exact rfl | assumption) (by ktr_room) (by ktr_units) (set1_con _ _ _ _ _ _ _ _) ?_); intro r' h' tk' tl' hR' F' N'; (obtain ⟨a', sa', n', m', sv', e1', e2', hs', l1', l2'⟩ := hR'; subst e1'; subst e2'); (try simp only [List.nil_append, List.cons_append] at N'); (try k_lt l2'); (try dsimp only); (try k_fold)))
  (k_with "exec While Compare" => (k_here; k_dflt (refine whl_start 5 ?_)))
  (k_with "subscriptTail Name Slice str ref" => (k_here; (first | (refine' sliceE_ns (s := ⟨_, _, _, _, _⟩) (by kxw_text) (by k_asm) (by k_asm) (by decide) ?_) | (refine' sliceE_sn (s := ⟨_, _, _, _, _⟩) (by kxw_text) (by k_asm) (by k_asm) (by decide) ?_) | (refine' sliceE_ss (s := ⟨_, _, _, _, _⟩) (by kxw_text) (by k_asm) (by k_asm) (by decide) ?_)); intro h' t' k' F' N'))
  (k_with "subscriptTail Name BinOp str int" => (k_here; (refine' itemM (by kxw_text) (by first | decide | k_dflt (decide +kernel)) (by first | decide | k_dflt (decide +kernel)) (by first | decide | k_dflt (decide +kernel)) ?_)))
  (k_with "subscriptTail Name Name str int" => (k_here; (refine' itemM (by kxw_text) (by first | decide | k_dflt (decide +kernel)) (by first | decide | k_dflt (decide +kernel)) (by first | decide | k_dflt (decide +kernel)) ?_)))
  (k_with "eval Constant int" => (refine m_int ?_))
  (k_with "eval Constant str" => (refine m_str ?_))
  (k_with "binaryOp Add int int" => (refine m_add ?_))
  (k_with "binaryOp Sub int int" => (refine m_sub ?_))
  (k_with "inplaceOp Add int int" => (refine m_iadd ?_))
  (k_with "unaryOp USub int" => (refine m_neg ?_))
  (k_with "execs nil" => (k_here; (try dsimp only); refine wpAny_execs_nil ?_))
  (k_with "execs cons" => (k_here; (try dsimp only); (try (refine gen_tok ?_; intro _)); refine execs_let ?_; intro _))
  exact True.intro
theorem lt_via {a b : Addr} {news : List (Addr × Obj)} (h : ∀ p ∈ news, @LT.lt Nat _ p.1 b) (h2 : @LT.lt Nat _ b a) : ∀ p ∈ news, @LT.lt Nat _ p.1 a := fun p hp => Nat.lt_trans (h p hp) h2
theorem read_two {D l a sa l2 a2 sa2 : Addr} {k n1 n2 n3 n4 m m2 : Nat} {sv sv2 : List Value} {b b2 : Bool} {ss ss2 : List Str} (h3 : StrsAre sv ss) (h4 : StrsAre sv2 ss2) :
    ReadIn [(D, tupN [.ref l, .ref l2] k), (l, lstN [.ref a] n1), (l2, lstN [.ref a2] n3), (a, lstN [.bool b, .ref sa] n2), (sa, lstN sv m), (a2, lstN [.bool b2, .ref sa2] n4), (sa2, lstN sv2 m2)] (.ref D) [(b, ss)] (some [(b2, ss2)]) :=
  ⟨D, k, l, rfl, places_one (.tail _ (.head _)) (place_one (.tail _ (.tail _ (.tail _ (.head _)))) (.tail _ (.tail _ (.tail _ (.tail _ (.head _))))) h3), l2, .head _,
    places_one (.tail _ (.tail _ (.head _))) (place_one (.tail _ (.tail _ (.tail _ (.tail _ (.tail _ (.head _)))))) (.tail _ (.tail _ (.tail _ (.tail _ (.tail _ (.tail _ (.head _))))))) h4)⟩
set_option maxHeartbeats 2000000 in
theorem rd2_con (w : World) (p : Program) (loose : List Str) (mean : ExcName → Option Value) (mg mb : Str → Option Value) (news : List (Addr × Obj)) (t : Tok) :
   Con w p loose mean mg mb 209 [.str (Str.ofString "(?s:[^.].*[^.])\\Z") t] 6 news (fun r tl => ReadIn tl r [(false, [Str.ofString "."])] (some [(false, [Str.ofString "."])]) ∧ Younger news tl) := by
  unfold Con
  k_fill
  intro dp un gd cn cs a ccd cl outer A₀ base h₀ L m s Q E B F X N T hk hd hu hret
  refine wpAny_call ?_
  first | k_dflt cell_enter | (refine' code_defC ?k1 ?k2 ?k3 ?k4 ?k5 ?kA ?kF ?kK ?k6 ?k7 ?k8 ?k9 ?kB ?kD ?_ ?c2 ?c3 ?c4; (case kA => exact rfl); (case kF => exact rfl); (case kK => first | exact rfl | assumption); (case k1 => k_asm); (case k2 => k_asm); (case k3 => k_asm); (case k4 => k_asm); (case k5 => k_asm); (case k6 => k_is); (case k7 => k_is); (case k8 => ktr_room); (case k9 => exact BindsTo.of_eq rfl); (case kB => exact rfl); (case kD => decide +kernel); (case c2 => exact rfl); (case c3 => exact rfl); (case c4 => exact rfl); k_whole; intro g' L' h' tk' cells' FG' F' N' Y' B' X' T' l1; (try k_lt l1); k_cells Y'; (try simp only [List.cons_append, List.nil_append] at N'); (try dsimp only); (try k_lift B'); (try k_fold))
  k_steps
  refine' hret _ _ _ [(_, tupN [.ref _, .ref _] _), (_, lstN [.ref _] _), (_, lstN [.ref _] _), (_, lstN [.bool _, .ref _] _), (_, lstN _ _), (_, lstN [.bool _, .ref _] _), (_, lstN _ _)] ?F ?N ⟨read_two ?S1 ?S2, ?Y⟩
  case F => k_asm
  case N =>
    refine' cb_drop (by assumption) (fun p hp => ?_)
    iterate 7 (
      rcases List.mem_cons.mp hp with rfl | hp
      · repeat (first | exact List.mem_cons_self | refine List.mem_cons_of_mem _ ?_))
    repeat (first | exact hp | refine List.mem_cons_of_mem _ ?_)
  case S1 => assumption
  case S2 => assumption
  case Y =>
    refine Younger.cons ?_ (Younger.cons ?_ (Younger.cons ?_ (Younger.cons ?_ (Younger.cons ?_ (Younger.cons ?_ (Younger.cons ?_ Younger.nil))))))
    all_goals first | (first | assumption | exact allLt_mem (by assumption) | exact allLt_mem (And.right (by assumption)) | exact allLt_mem (And.right (And.right (by assumption))) | exact allLt_mem (And.right (And.right (And.right (by assumption)))) | exact allLt_mem (And.right (And.right (And.right (And.right (by assumption))))) | exact allLt_mem (And.right (And.right (And.right (And.right (And.right (by assumption)))))) | exact allLt_mem (And.right (And.right (And.right (And.right (And.right (And.right (by assumption))))))) | exact allLt_mem (And.right (And.right (And.right (And.right (And.right (And.right (And.right (by assumption))))))))) | (refine lt_via ?_ (by assumption); (first | assumption | exact allLt_mem (by assumption) | exact allLt_mem (And.right (by assumption)) | exact allLt_mem (And.right (And.right (by assumption))) | exact allLt_mem (And.right (And.right (And.right (by assumption)))) | exact allLt_mem (And.right (And.right (And.right (And.right (by assumption))))) | exact allLt_mem (And.right (And.right (And.right (And.right (And.right (by assumption)))))) | exact allLt_mem (And.right (And.right (And.right (And.right (And.right (And.right (by assumption))))))) | exact allLt_mem (And.right (And.right (And.right (And.right (And.right (And.right (And.right (by assumption))))))))))
theorem rowsoff_Rd2 : True := by
  k_with_none
  exact True.intro
end Mine
end
section
open PySem PySem.W PyProof.Rows PySem.Spec PySem.Calls
set_option maxRecDepth 100000
namespace Mine
section
variable {prog : Program} {w : World} {A : Around} {E : Value → Shared → Prop} {Q : Flow → Shared → Prop} {s : Shared} {env : Env} {h₀ : Heap} {L : Addr} {m₀ : Str → Option Value} {news : List (Addr × Obj)} {test : Expr} {body : List Stmt}
/-- as whl_tok; the turn's post is a name of its own -/
theorem whl_tok2 {k n₀ : Nat} {i₀ : Int} {t₀ : Tok} (y : Str) (stored : List Str) (J : Nat → Int → List (Addr × Obj) → Prop)
    (F : Fr h₀ L s.heap m₀) (N : News h₀ L s.heap news) (G : AllBare s.gens) (hy : m₀ y = some (.int i₀ t₀)) (hJ : J n₀ i₀ news)
    (turn : ∀ n i t (u : Str → Option Value) news₁ s₁ (W : Flow → Shared → Prop), (∀ s₃ m₂ news₂ n' i' t', s₃.os = s.os → AllBare s₃.gens → Fr h₀ L s₃.heap m₂ → News h₀ L s₃.heap news₂ → m₂ y = some (.int i' t') → (∀ x, x ≠ y → stored.contains x = false → m₂ x = m₀ x) → n' < n → J n' i' news₂ → W .next s₃) →
      s₁.os = s.os → AllBare s₁.gens → J n i news₁ → Fr h₀ L s₁.heap (fun x => if x = y then some (.int i t) else if stored.contains x then u x else m₀ x) → News h₀ L s₁.heap news₁ →
      wpAny (model prog w) A (isTrue test env (eval test env)) (fun b s₂ => WhlIf b (wpAny (model prog w) A (execs body env) W E s₂) (Q .next s₂)) E s₁)
    (hE : PassesOwn (model prog w) A env E := by passes_own) : WhlRest prog w A E env test body [] Q k s :=
  whl_tok y stored J F N G hy hJ (fun n i t u news₁ s₁ ho G₁ J₁ F₁ N₁ => turn n i t u news₁ s₁ (WStep h₀ L s y stored m₀ J Q n) (fun _ m₂ news₂ n' i' t' a b c d e f g h => ⟨m₂, news₂, n', i', t', a, b, c, d, e, f, g, h⟩) ho G₁ J₁ F₁ N₁) hE
theorem whl_tok3 {k n₀ : Nat} {i₀ : Int} {t₀ : Tok} (y : Str) (stored : List Str) (J : (Str → Option Value) → Nat → Int → List (Addr × Obj) → Prop)
    (F : Fr h₀ L s.heap m₀) (N : News h₀ L s.heap news) (G : AllBare s.gens) (hy : m₀ y = some (.int i₀ t₀)) (hJ : J m₀ n₀ i₀ news)
    (turn : ∀ n i t (u : Str → Option Value) news₁ s₁ (W : Flow → Shared → Prop), (∀ s₃ m₂ news₂ n' i' t', s₃.os = s.os → AllBare s₃.gens → Fr h₀ L s₃.heap m₂ → News h₀ L s₃.heap news₂ → m₂ y = some (.int i' t') → (∀ x, x ≠ y → stored.contains x = false → m₂ x = m₀ x) → n' < n → J m₀ n' i' news₂ → W .next s₃) →
      s₁.os = s.os → AllBare s₁.gens → J m₀ n i news₁ → Fr h₀ L s₁.heap (fun x => if x = y then some (.int i t) else if stored.contains x then u x else m₀ x) → News h₀ L s₁.heap news₁ →
      wpAny (model prog w) A (isTrue test env (eval test env)) (fun b s₂ => WhlIf b (wpAny (model prog w) A (execs body env) W E s₂) (Q .next s₂)) E s₁)
    (hE : PassesOwn (model prog w) A env E := by passes_own) : WhlRest prog w A E env test body [] Q k s := whl_tok2 y stored (J m₀) F N G hy hJ turn hE
end
end Mine
end
section
open PySem PySem.W PyProof.Rows PySem.Spec PySem.Calls
set_option maxRecDepth 100000
namespace Mine
structure FigAt (x y : Str) (k : Nat) : Prop where
  xl : x.length ≤ 100
  yl : y.length = 4 + 5 * k
  h4 : Txt.slice x none (some 4) = Str.ofString "(?s:"
  h3 : Txt.slice x (some (-3)) none = Str.ofString ")\\Z"
  hy : Txt.slice x (some 4) (some (-3)) = y
  y0 : Txt.slice y (some 0) (some (0+2)) = Str.ofString ".*"
  y1 : Txt.slice y (some (0+2)) (some (0+2+2)) = Str.ofString "\\."
  y2 : Txt.item y (0+2) = Str.ofString "\\"
  y3 : Txt.slice y (some (0+2+1)) (some (0+2+2)) = Str.ofString "."
structure FigTurn (y : Str) (i : Int) : Prop where
  t0 : Txt.slice y (some i) (some (i+2)) = Str.ofString "[0"
  t1 : Txt.item y i = Str.ofString "["
  t2 : Txt.find3 y (Str.ofString "]") i = i + 4
  t3 : Txt.slice y (some (i+1)) (some (if Txt.find3 y (Str.ofString "]") i > i + 1 then Txt.find3 y (Str.ofString "]") i else i + 1)) = Str.ofString "0-9"
noncomputable def figP (k : Nat) : List (Bool × List Str) := (true, [Str.ofString "."]) :: List.replicate k (true, digs10)
local macro_rules | `(tactic| k_upd) => `(tactic| refine' Upd.head (by assumption))
theorem rows_Rdk : True := by
  k_with_none
  (k_with "call ref" => (k_here; (with_reducible show wpAny _ _ (call (Value.ref 202) _) _ _ _); (refine' con_useN (by k_asm) (by k_asm) (by k_asm) (by k_asm) (by k_asm) (by first | exact rfl | assumption) (by ktr_room) (by ktr_units) (set2_con _ _ _ _ _ _ _ _) ?_); intro r' h' tk' tl' hR' F' N'; (obtain ⟨a', sa', n', m', sv', e1', e2', hs', l1', l2'⟩ := hR'; subst e1'; subst e2'); (try simp only [List.nil_append, List.cons_append] at N'); (try k_lt l2'); (try dsimp only); (try k_fold)))
  (k_with "WhlRest" => ((with_reducible show WhlRest _ _ _ _ _ _ _ _ _ 0 _); refine Hold.out ?_))
  (k_with "exec While Compare" => (k_here; k_dflt (refine whl_start 2 ?_)))
  (k_with "WhlIf" => (first | (refine WhlIf.yes (by (first | decide | (simp only [decide_eq_true_eq]; omega))) ?_) | (refine WhlIf.no (by (first | decide | (simp only [decide_eq_false_iff_not]; omega))) ?_)))
  (k_with "subscriptTail Name Slice str ref" => (k_here; (first | (refine' sliceE_ns (s := ⟨_, _, _, _, _⟩) (by first | kxw_text | assumption) (by k_asm) (by k_asm) (by first | decide | (rw [sizeLine_eq]; omega)) ?_) | (refine' sliceE_sn (s := ⟨_, _, _, _, _⟩) (by first | kxw_text | assumption) (by k_asm) (by k_asm) (by first | decide | (rw [sizeLine_eq]; omega)) ?_) | (refine' sliceE_ss (s := ⟨_, _, _, _, _⟩) (by first | kxw_text | assumption) (by k_asm) (by k_asm) (by first | decide | (rw [sizeLine_eq]; omega)) ?_)); intro h' t' k' F' N'))
  (k_with "subscriptTail Name BinOp str int" => (k_here; (refine' itemM (by first | kxw_text | assumption) (by first | decide | (simp [fitsSsize]; omega)) (by first | decide | omega) (by first | decide | omega) ?_)))
  (k_with "subscriptTail Name Name str int" => (k_here; (refine' itemM (by first | kxw_text | assumption) (by first | decide | (simp [fitsSsize]; omega)) (by first | decide | omega) (by first | decide | omega) ?_)))
  (k_with "eval Constant int" => (refine m_int ?_))
  (k_with "eval Constant str" => (refine m_str ?_))
  (k_with "binaryOp Add int int" => (refine m_add ?_))
  (k_with "binaryOp Sub int int" => (refine m_sub ?_))
  (k_with "inplaceOp Add int int" => (refine m_iadd ?_))
  (k_with "unaryOp USub int" => (refine m_neg ?_))
  (k_with "execs nil" => (k_here; (try dsimp only); refine wpAny_execs_nil ?_))
  (k_with "execs cons" => (k_here; (try dsimp only); (try (refine gen_tok ?_; intro _)); refine execs_let ?_; intro _))
  exact True.intro
theorem PlaceIn.mono {tl tl' : List (Addr × Obj)} {v : Value} {p : Bool × List Str} (h : PlaceIn tl v p) (sub : ∀ q ∈ tl, q ∈ tl') : PlaceIn tl' v p := by
  obtain ⟨a, n, sa, m, sv, e, h1, h2, h3⟩ := h
  exact ⟨a, n, sa, m, sv, e, sub _ h1, sub _ h2, h3⟩
noncomputable def PlsIn (tl : List (Addr × Obj)) (vs : List Value) (P : List (Bool × List Str)) : Prop :=
  vs.length = P.length ∧ ∀ (i : Nat) (v : Value) (p : Bool × List Str), vs[i]? = some v → P[i]? = some p → PlaceIn tl v p
theorem PlsIn.mono {tl tl' : List (Addr × Obj)} {vs : List Value} {P : List (Bool × List Str)} (h : PlsIn tl vs P) (sub : ∀ q ∈ tl, q ∈ tl') : PlsIn tl' vs P := ⟨h.1, fun i v p hv hp => (h.2 i v p hv hp).mono sub⟩
theorem PlsIn.snoc {tl : List (Addr × Obj)} {vs : List Value} {P : List (Bool × List Str)} {v : Value} {p : Bool × List Str} (h : PlsIn tl vs P) (hp : PlaceIn tl v p) : PlsIn tl (vs ++ [v]) (P ++ [p]) := by
  refine ⟨by simp [h.1], fun i w q hw hq => ?_⟩
  rcases Nat.lt_trichotomy i vs.length with hi | hi | hi
  · rw [List.getElem?_append_left hi] at hw
    rw [List.getElem?_append_left (h.1 ▸ hi)] at hq
    exact h.2 i w q hw hq
  · subst hi
    rw [List.getElem?_append_right (Nat.le_refl _), Nat.sub_self] at hw
    rw [h.1, List.getElem?_append_right (Nat.le_refl _), Nat.sub_self] at hq
    simp at hw hq
    subst hw hq
    exact hp
  · rw [List.getElem?_eq_none (by simp; omega)] at hw
    cases hw
theorem figP_snoc (q : Nat) : figP q ++ [(true, digs10)] = figP (q + 1) := by
  unfold figP
  rw [List.cons_append, List.replicate_succ']
/-- where the turns of the figures stand -/
noncomputable def RdJ (k : Nat) (news : List (Addr × Obj)) (m₀ : Str → Option Value) (n : Nat) (i : Int) (led : List (Addr × Obj)) : Prop :=
  ∃ (l2 l1 : Addr) (c1 : Nat) (q : Nat) (vs : List Value) (c : Nat) (tlp : List (Addr × Obj)), m₀ "behind" = some (.ref l2) ∧ m₀ "ahead" = some (.ref l1) ∧ q + n = k ∧ i = 4 + 5 * (q : Int) ∧
    (∀ p ∈ (l2, W.listOf vs.toArray c) :: (tlp ++ (l1, W.listOf #[] c1) :: news), p ∈ led) ∧
    (∀ p ∈ tlp ++ (l1, W.listOf #[] c1) :: news, p.1 ≠ l2) ∧ Younger news tlp ∧ PlsIn tlp vs (figP q)
local macro_rules | `(tactic| k_updF) => `(tactic| refine' UpdF.head (by assumption))
theorem Younger.append {news a b : List (Addr × Obj)} (h : Younger news a) (k : Younger news b) : Younger news (a ++ b) := fun q hq p hp => by
  rcases List.mem_append.mp hq with hq | hq
  · exact h q hq p hp
  · exact k q hq p hp
set_option maxHeartbeats 2000000 in
theorem rdk_con (w : World) (p : Program) (loose : List Str) (mean : ExcName → Option Value) (mg mb : Str → Option Value) (news : List (Addr × Obj)) (t : Tok) (x y : Str) (k : Nat) (hk : k ≤ 6) (Fg : FigAt x y k) (Tn : ∀ q : Nat, q < k → FigTurn y (4 + 5 * (q : Int))) :
   ConG w p loose mean mg mb 209 [.str x t] 6 news (fun r tl => ReadIn tl r [] (some (figP k)) ∧ Younger news tl) := by
  obtain ⟨hxl, hyl, h4, h3, hy, hy0, hy1, hy2, hy3⟩ := Fg
  unfold ConG
  k_fill
  intro dp un gd cn cs a ccd cl outer A₀ base h₀ L m s Q E B F X N T hk G hd hu hret
  refine wpAny_call ?_
  k_dflt cell_enter
  k_steps
  refine Hold.mk ?_
  refine' whl_tok3 (n₀ := k) "i" ["here", "j"] (RdJ k news) ?F ?N ?G ?hy ?hJ ?turn ?hE
  case F => k_asm
  case N => k_asm
  case G => exact G
  case hy => rfl
  case hE => first | passes_own | with_unfolding_all passes_own
  case hJ =>
    refine' ⟨_, _, 0, 0, [.ref _], 1, [(_, lstN [.bool true, .ref _] _), (_, lstN [.str (Str.ofString ".") _] _)], rfl, rfl, ?q, ?i, ?sub, ?ne, ?yo, ?pl⟩
    case q => omega
    case i => omega
    case sub =>
      intro p hp
      rcases List.mem_cons.mp hp with rfl | hp
      · repeat (first | exact List.mem_cons_self | refine List.mem_cons_of_mem _ ?_)
      · rcases List.mem_cons.mp hp with rfl | hp
        · repeat (first | exact List.mem_cons_self | refine List.mem_cons_of_mem _ ?_)
        · rcases List.mem_cons.mp hp with rfl | hp
          · repeat (first | exact List.mem_cons_self | refine List.mem_cons_of_mem _ ?_)
          · exact List.mem_cons_of_mem _ (List.mem_cons_of_mem _ (List.mem_cons_of_mem _ hp))
    case ne =>
      intro p hp
      rcases List.mem_cons.mp hp with rfl | hp
      · show (_ : Nat) ≠ _; omega
      · rcases List.mem_cons.mp hp with rfl | hp
        · show (_ : Nat) ≠ _; omega
        · rcases List.mem_cons.mp hp with rfl | hp
          · show (_ : Nat) ≠ _; omega
          · refine Nat.ne_of_lt ((?_ : ∀ p ∈ news, @LT.lt Nat _ p.1 _) p hp)
            (first | assumption | exact allLt_mem (by assumption) | exact allLt_mem (And.right (by assumption)) | exact allLt_mem (And.right (And.right (by assumption))) | exact allLt_mem (And.right (And.right (And.right (by assumption)))) | exact allLt_mem (And.right (And.right (And.right (And.right (by assumption))))) | exact allLt_mem (And.right (And.right (And.right (And.right (And.right (by assumption)))))) | exact allLt_mem (And.right (And.right (And.right (And.right (And.right (And.right (by assumption))))))) | exact allLt_mem (And.right (And.right (And.right (And.right (And.right (And.right (And.right (by assumption)))))))))
    case yo =>
      refine Younger.cons ?_ (Younger.cons ?_ Younger.nil)
      all_goals (first | assumption | exact allLt_mem (by assumption) | exact allLt_mem (And.right (by assumption)) | exact allLt_mem (And.right (And.right (by assumption))) | exact allLt_mem (And.right (And.right (And.right (by assumption)))) | exact allLt_mem (And.right (And.right (And.right (And.right (by assumption))))) | exact allLt_mem (And.right (And.right (And.right (And.right (And.right (by assumption)))))) | exact allLt_mem (And.right (And.right (And.right (And.right (And.right (And.right (by assumption))))))) | exact allLt_mem (And.right (And.right (And.right (And.right (And.right (And.right (And.right (by assumption)))))))))
    case pl =>
      refine ⟨rfl, fun i v p hv hp => ?_⟩
      cases i with
      | zero =>
        simp [figP] at hv hp
        subst hv hp
        exact place_one (.head _) (.tail _ (.head _)) (.cons _ _ .nil)
      | succ i => simp at hv
  case turn =>
    rintro n i ti u led₁ s₁ Wp hW ho G₁ ⟨l2, l1, c1, q, vs, c, tlp, hb2, hb1, hq, hi, hsub, hne, hYo, hPl⟩ F₁ N₁
    replace hb2 := Option.some.inj hb2
    replace hb1 := Option.some.inj hb1
    cases hb2
    cases hb1
    have N₂ := cb_drop N₁ hsub
    clear N₁
    have hvl := hPl.1
    have hfl : (figP q).length = q + 1 := by simp [figP]
    cases n with
    | zero =>
      k_steps
      have hqk : q = k := by omega
      subst hqk
      refine' hret _ _ ((_, tupN [.ref _, .ref _] _) :: (_, W.listOf vs.toArray c) :: (tlp ++ [(_, W.listOf #[] c1)])) ho G₁ ?F1 ?N1 ⟨⟨_, _, _, rfl, places_nil (n := c1) ?m1, _, .head _, vs, _, .tail _ (.head _), hPl.1, ?len1, ?pl1⟩, ?Y1⟩
      case F1 => k_asm
      case N1 =>
        refine' cb_drop (by assumption) (fun p hp => ?_)
        rcases List.mem_cons.mp hp with rfl | hp
        · exact .head _
        · rcases List.mem_cons.mp hp with rfl | hp
          · exact .tail _ (.head _)
          · refine .tail _ (.tail _ ?_)
            have hp2 : p ∈ (tlp ++ [(_, _)]) ++ news := hp
            rw [List.append_assoc] at hp2
            exact hp2
      case m1 => exact .tail _ (.tail _ (List.mem_append_right _ (.head _)))
      case len1 => omega
      case pl1 => exact fun i v p hv hp => (hPl.2 i v p hv hp).mono fun x hx => .tail _ (.tail _ (List.mem_append_left _ hx))
      case Y1 =>
        refine Younger.cons ?_ (Younger.cons ?_ (Younger.append hYo (Younger.cons ?_ Younger.nil)))
        · exact fun p hp => allLt_mem (And.right (by assumption)) p (List.mem_append_right _ (List.mem_cons_of_mem _ hp))
        all_goals (first | assumption | exact allLt_mem (by assumption) | exact allLt_mem (And.right (by assumption)) | exact allLt_mem (And.right (And.right (by assumption))) | exact allLt_mem (And.right (And.right (And.right (by assumption)))) | exact allLt_mem (And.right (And.right (And.right (And.right (by assumption))))) | exact allLt_mem (And.right (And.right (And.right (And.right (And.right (by assumption)))))) | exact allLt_mem (And.right (And.right (And.right (And.right (And.right (And.right (by assumption))))))) | exact allLt_mem (And.right (And.right (And.right (And.right (And.right (And.right (And.right (by assumption)))))))))
    | succ n =>
      obtain ⟨t0, t1, t2, t3⟩ := Tn q (by omega)
      rw [← hi] at t0 t1 t2 t3
      k_steps
      refine' hW _ _ _ n _ _ ?ho2 ?G2 ?F2 ?N2 ?hy2 ?hm2 (Nat.lt_succ_self _) ⟨_, _, c1, q + 1, vs ++ [.ref _], c + 1, (_, lstN [.bool true, .ref _] _) :: (_, lstN _ _) :: tlp, rfl, rfl, ?q2, ?i2, ?sub2, ?ne2, ?yo2, ?pl2⟩
      case ho2 => exact ho
      case G2 => assumption
      case F2 => k_asm
      case N2 => k_asm
      case hy2 => rfl
      case hm2 =>
        intro x h1 h2
        have n1 : x ≠ "here" := fun e => by subst e; revert h2; decide
        have n2 : x ≠ "j" := fun e => by subst e; revert h2; decide
        simp only [h1, h2, n1, n2, if_false, Bool.false_eq_true]
      case q2 => omega
      case i2 => rw [t2]; split <;> omega
      case sub2 =>
        intro p hp
        rcases List.mem_cons.mp hp with rfl | hp
        · rw [← List.push_toArray]
          repeat (first | exact List.mem_cons_self | refine List.mem_cons_of_mem _ ?_)
        · rcases List.mem_cons.mp hp with rfl | hp
          · repeat (first | exact List.mem_cons_self | refine List.mem_cons_of_mem _ ?_)
          · rcases List.mem_cons.mp hp with rfl | hp
            · refine List.mem_cons_of_mem _ ?_
              exact List.mem_cons_self
            · exact List.mem_cons_of_mem _ (List.mem_cons_of_mem _ (List.mem_cons_of_mem _ hp))
      case ne2 =>
        intro p hp
        rcases List.mem_cons.mp hp with rfl | hp
        · show (_ : Nat) ≠ _; omega
        · rcases List.mem_cons.mp hp with rfl | hp
          · show (_ : Nat) ≠ _; omega
          · exact hne p hp
      case yo2 =>
        have key : ∀ p ∈ news, @LT.lt Nat _ p.1 _ := fun p hp => allLt_mem (And.right (by assumption)) p (List.mem_append_right _ (List.mem_cons_of_mem _ hp))
        exact Younger.cons (lt_via key (by assumption)) (Younger.cons key hYo)
      case pl2 =>
        rw [← figP_snoc]
        exact (hPl.mono fun x hx => .tail _ (.tail _ hx)).snoc (place_one (.head _) (.tail _ (.head _)) (by assumption))
theorem rowsoff_Rdk : True := by
  k_with_none
  exact True.intro
end Mine
end
section
open PySem PySem.W PyProof.Rows PySem.Spec PySem.Calls
set_option maxRecDepth 100000
namespace Mine
section
variable {prog : Program} {w : World} {A : Around} {E : Value → Shared → Prop} {Q : Flow → Shared → Prop} {s : Shared} {env : Env} {h₀ : Heap} {target : Expr} {body : List Stmt} {ws : List (Addr × String)} {keep : List (Addr × Obj)} {vs : List Value}
theorem enum_inv (J : Nat → (Str → Option Value) → List (Addr × Obj) → Prop)
    (turn : ∀ i x T t h tk m₁ news₁ (Wp : List (Addr × Obj) → Flow → Shared → Prop), vs[i]? = some x → J i m₁ news₁ →
      (∀ its h' tk' m' news', Fr h₀ env.locals h' m' → News h₀ env.locals h' (its ++ news') → (∀ p ∈ news', ∀ q ∈ its, p.1 ≠ q.1) → SubL keep news' → J (i + 1) m' news' → Wp its .next { s with heap := h', toks := tk' }) →
      IsTup h T #[.int (i : Int) t, x] → Fr h₀ env.locals h m₁ → AllObj ws (fun its => News h₀ env.locals h (its ++ news₁) →
        wpAny (model prog w) A (assign target env (.ref T)) (fun _ s₂ => wpAny (model prog w) A (execs body env) (Wp its) E s₂) E { s with heap := h, toks := tk }))
    (done : ∀ m₁ news₁ h tk, J vs.length m₁ news₁ → Fr h₀ env.locals h m₁ → News h₀ env.locals h news₁ → Q .next { s with heap := h, toks := tk }) :
    ∀ (us : List Value) (i : Nat) (m : Str → Option Value) (news : List (Addr × Obj)), vs.drop i = us → i ≤ vs.length → J i m news → ItemsRest prog w A E h₀ env target body Q s ws keep (enumItems i us) m news
  | [], i, m, news, hd, hi, hJ => by
    have : i = vs.length := by
      have := congrArg List.length hd
      simp at this
      omega
    subst this
    exact ItemsRest.zero fun h tk F N => done m news h tk hJ F N
  | x :: us, i, m, news, hd, hi, hJ => by
    have hx : vs[i]? = some x := by
      have h0 : (vs.drop i)[0]? = some x := by rw [hd]; rfl
      simpa using h0
    have hlt : i < vs.length := by
      rcases Nat.lt_or_ge i vs.length with h | h
      · exact h
      · rw [List.getElem?_eq_none h] at hx; cases hx
    have hd' : vs.drop (i + 1) = us := by rw [← List.drop_drop, hd]; rfl
    refine ItemsRest.pair fun T t h tk hT F => ?_
    refine turn i x T t h tk m news (fun its => UnrPostW h₀ env.locals { s with heap := h, toks := tk } its (fun m' n' => SubL keep n' ∧ ItemsRest prog w A E h₀ env target body Q s ws keep (enumItems (i + 1) us) m' n') Q) hx hJ ?_ hT F
    intro its h' tk' m' news' F' N' off hk hJ'
    exact ⟨h', tk', m', news', rfl, F', N', off, hk, enum_inv J turn done us (i + 1) m' news' hd' hlt hJ'⟩
theorem vals_inv (J : Nat → (Str → Option Value) → List (Addr × Obj) → Prop)
    (turn : ∀ i x h tk m₁ news₁ (Wp : List (Addr × Obj) → Flow → Shared → Prop), vs[i]? = some x → J i m₁ news₁ →
      (∀ its h' tk' m' news', Fr h₀ env.locals h' m' → News h₀ env.locals h' (its ++ news') → (∀ p ∈ news', ∀ q ∈ its, p.1 ≠ q.1) → SubL keep news' → J (i + 1) m' news' → Wp its .next { s with heap := h', toks := tk' }) →
      Fr h₀ env.locals h m₁ → AllObj ws (fun its => News h₀ env.locals h (its ++ news₁) →
        wpAny (model prog w) A (assign target env x) (fun _ s₂ => wpAny (model prog w) A (execs body env) (Wp its) E s₂) E { s with heap := h, toks := tk }))
    (done : ∀ m₁ news₁ h tk, J vs.length m₁ news₁ → Fr h₀ env.locals h m₁ → News h₀ env.locals h news₁ → Q .next { s with heap := h, toks := tk }) :
    ∀ (us : List Value) (i : Nat) (m : Str → Option Value) (news : List (Addr × Obj)), vs.drop i = us → i ≤ vs.length → J i m news → ItemsRest prog w A E h₀ env target body Q s ws keep (us.map .val) m news
  | [], i, m, news, hd, hi, hJ => by
    have : i = vs.length := by
      have := congrArg List.length hd
      simp at this
      omega
    subst this
    exact ItemsRest.zero fun h tk F N => done m news h tk hJ F N
  | x :: us, i, m, news, hd, hi, hJ => by
    have hx : vs[i]? = some x := by
      have h0 : (vs.drop i)[0]? = some x := by rw [hd]; rfl
      simpa using h0
    have hlt : i < vs.length := by
      rcases Nat.lt_or_ge i vs.length with h | h
      · exact h
      · rw [List.getElem?_eq_none h] at hx; cases hx
    have hd' : vs.drop (i + 1) = us := by rw [← List.drop_drop, hd]; rfl
    refine ItemsRest.val fun h tk F => ?_
    refine turn i x h tk m news (fun its => UnrPostW h₀ env.locals { s with heap := h, toks := tk } its (fun m' n' => SubL keep n' ∧ ItemsRest prog w A E h₀ env target body Q s ws keep (us.map .val) m' n') Q) hx hJ ?_ F
    intro its h' tk' m' news' F' N' off hk hJ'
    exact ⟨h', tk', m', news', rfl, F', N', off, hk, vals_inv J turn done us (i + 1) m' news' hd' hlt hJ'⟩
end
end Mine
end
section
open PySem PySem.W PyProof.Rows PySem.Spec PySem.Calls
set_option maxRecDepth 100000
namespace Mine
open PyProof.Rows.LCg in
noncomputable def IntEnd (h₀ : Heap) (L : Addr) (m : Str → Option Value) (s₁ : Shared) (led : List (Addr × Obj)) (B : Int) (y : Value) (s' : Shared) : Prop :=
  (∃ n t, y = .int n t ∧ 0 ≤ n ∧ n < B) ∧ ∃ h' tk', s' = { s₁ with heap := h', toks := tk' } ∧ Fr h₀ L h' m ∧ News h₀ L h' led
theorem IntEnd.intro {h₀ : Heap} {L : Addr} {m : Str → Option Value} {s₁ : Shared} {led all : List (Addr × Obj)} {n B : Int} {t : Tok} {h' : Heap} {tk' : Nat} (e1 : 0 ≤ n) (e2 : n < B) (F : Fr h₀ L h' m) (N : News h₀ L h' all) (sub : ∀ p ∈ led, p ∈ all) :
    IntEnd h₀ L m s₁ led B (.int n t) { s₁ with heap := h', toks := tk' } := ⟨⟨n, t, rfl, e1, e2⟩, h', tk', rfl, F, fun p hp => N p (sub p hp)⟩
theorem intsAre_snoc {x : Int} {t : Tok} : ∀ {vs : List Value} {ns : List Int}, IntsAre vs ns → IntsAre (vs ++ [.int x t]) (ns ++ [x])
  | _, _, .nil => .cons x t .nil
  | _, _, .cons _ _ h => .cons _ _ (intsAre_snoc h)
open PyProof.Rows.LCg in
theorem rest_int {prog : Program} {w : World} {A : Around} {h₀ : Heap} {L : Addr} {m : Str → Option Value} {env : Env} {elt : Expr} {x : Str} {scope : Scope} {cl : List (Str × Addr)} {s : Shared} {S : List (Addr × Obj) → Prop} {P : Nat → Value → Prop}
    {Fin : List Value → List (Addr × Obj) → Prop} {n : Nat} {news : List (Addr × Obj)} (B : Int) (hS : S news)
    (turn : ∀ i, i < n → ∀ (ys : List Value) (v : Value) (I : Addr) (oI : Obj) (C : Addr) (oC : Obj) (D : Addr) (m₂ : Str → Option Value) (h : Heap) (tk : Nat) (E' : Value → Shared → Prop), P i v → NsObj oC m₂ → m₂ x = some v → Fr h₀ L h m →
      News h₀ L h ((I, oI) :: (C, oC) :: (D, lst ys) :: news) →
      wpAny (model prog w) A (eval elt (compEnvC scope cl C env)) (IntEnd h₀ L m { s with heap := h, toks := tk } ((I, oI) :: (C, oC) :: (D, lst ys) :: news) B) E' { s with heap := h, toks := tk })
    (fin : ∀ ys ns, IntsAre ys ns → ns.length = n → (∀ k ∈ ns, 0 ≤ k ∧ k < B) → Fin ys news) :
    CompRest prog w A h₀ L m env elt x scope cl s S P Fin n 0 [] news := by
  have all : ∀ k i ys ns, i + k = n → IntsAre ys ns → ns.length = i → (∀ k ∈ ns, 0 ≤ k ∧ k < B) → CompRest prog w A h₀ L m env elt x scope cl s S P Fin k i ys news := by
    intro k
    induction k with
    | zero =>
      intro i ys ns hi hy hl hb
      exact fin ys ns hy (by omega) hb
    | succ k ih =>
      intro i ys ns hi hy hl hb
      intro v I oI C oC D m₂ h tk E' hP hC hv F N off ne
      refine wpAny_mono (turn i (by omega) ys v I oI C oC D m₂ h tk E' hP hC hv F N) (fun y s' he => ?_) fun _ _ e => e
      obtain ⟨⟨a, t, rfl, e1, e2⟩, h', tk', rfl, F2, N2⟩ := he
      refine CompEnd.intro F2 N2 news (fun _ hp => hp) off hS (ih (i + 1) (ys ++ [.int a t]) (ns ++ [a]) (by omega) (intsAre_snoc hy) (by simp [hl]) ?_)
      intro k hk
      rcases List.mem_append.mp hk with hk | hk
      · exact hb k hk
      · rw [List.mem_singleton.mp hk]; exact ⟨e1, e2⟩
  exact all n 0 [] [] (by omega) .nil rfl (fun _ h => nomatch h)
end Mine
end
section
open PySem PySem.W PyProof.Rows PySem.Spec PySem.Calls
set_option maxRecDepth 100000
namespace Mine
section
variable {M : Model} {A : Around} {E : Value → Shared → Prop} {s : Shared} {h₀ : Heap} {L a : Addr} {m : Str → Option Value} {cn : Str} {cs : Scope} {ccd : Value} {cl : List (Str × Addr)} {x : Str} {news : List (Addr × Obj)} {Q : Unit → Shared → Prop}
/-- stores that forget the token -/
theorem storeI {i : Int} {t : Tok} (F : Fr h₀ L s.heap m) (N : News h₀ L s.heap news)
    (h : ∀ h' t' k', Fr h₀ L h' (fun y => if y = x then some (.int i t') else m y) → News h₀ L h' news → Q () { s with heap := h', toks := k' })
    (hk : cs.kind = .function := by rfl) (hx : (envX cn cs L a ccd cl).kindOf x = some .local := by rfl) : wpAny M A (storeName (envX cn cs L a ccd cl) x (.int i t)) Q E s :=
  storeX_L F N (fun h' F' N' => h h' t _ F' N') hk hx
theorem storeS {y : Str} {t : Tok} (F : Fr h₀ L s.heap m) (N : News h₀ L s.heap news)
    (h : ∀ h' t' k', Fr h₀ L h' (fun z => if z = x then some (.str y t') else m z) → News h₀ L h' news → Q () { s with heap := h', toks := k' })
    (hk : cs.kind = .function := by rfl) (hx : (envX cn cs L a ccd cl).kindOf x = some .local := by rfl) : wpAny M A (storeName (envX cn cs L a ccd cl) x (.str y t)) Q E s :=
  storeX_L F N (fun h' F' N' => h h' t _ F' N') hk hx
theorem storeV {v : Value} (F : Fr h₀ L s.heap m) (N : News h₀ L s.heap news)
    (h : ∀ h' k', Fr h₀ L h' (fun y => if y = x then some v else m y) → News h₀ L h' news → Q () { s with heap := h', toks := k' })
    (hk : cs.kind = .function := by rfl) (hx : (envX cn cs L a ccd cl).kindOf x = some .local := by rfl) : wpAny M A (storeName (envX cn cs L a ccd cl) x v) Q E s :=
  storeX_L F N (fun h' F' N' => h h' _ F' N') hk hx
end
end Mine
end
section
open PySem PySem.W PyProof.Rows PySem.Spec PySem.Calls
set_option maxRecDepth 100000
namespace Mine
/-- a text of seven signs of the pool -/
noncomputable def Joined (X : Str) : Prop := ∃ ss : List Str, X = Txt.join (Str.ofString "") ss ∧ ss.length = 7 ∧ ∀ y ∈ ss, ∃ j : Nat, j < 8 ∧ y = Txt.item (Str.ofString ".70a-B.9") (j : Int)
local macro_rules | `(tactic| k_upd) => `(tactic| (refine' Upd.head (fun p hp => Nat.ne_of_lt (?_ p hp)); assumption))
/-- the signs so far -/
noncomputable def LtJ (base : List (Addr × Obj)) (l1 l : Addr) (lo : Obj) (m₀ : Str → Option Value) (i : Nat) (m : Str → Option Value) (led : List (Addr × Obj)) : Prop :=
  ∃ (ys : List Value) (ss : List Str) (c : Nat), led = (l, lo) :: (l1, W.listOf ys.toArray c) :: base ∧ StrsAre ys ss ∧ ss.length = i ∧ (∀ y ∈ ss, ∃ j : Nat, j < 8 ∧ y = Txt.item (Str.ofString ".70a-B.9") (j : Int)) ∧
    ∃ u : Str → Option Value, m = fun x => if (["k", "first", "moved"] : List Str).contains x then u x else m₀ x
theorem rows_Lt : True := by
  k_with_none
  (k_with "subscriptTail Name Slice ref ref" => (k_here; (with_reducible show wpAny _ _ (subscriptTail _ (PySem.Expr.Slice _ _ (some _) _) (Value.ref _) (Value.ref _)) _ _ _); k_dflt (refine' kmk_slice3_lit (e := rfl) (by k_asm) (by k_asm) (by kmk_list) (by kmk_part) (by kmk_part) (by kmk_part) (by decide) ?_ (by with_unfolding_all rfl) (by kmk_pure) (by (refine kmk_sz (by assumption) ?_; rw [sizeLine_eq]; omega))); intro D' h' F' N' l1; (try k_lt l1); (try k_sweep)))
  (k_with "IntEnd" => refine Hold.out ?_)
  (k_with "CompSrc" => refine Hold.out ?_)
  (k_with "eval ListComp" => (k_here; k_dflt (refine LCg.ListComp_U (F₀ := by k_asm) (by with_unfolding_all rfl) (by decide) (by rfl) (by decide) (by rfl) ?_)))
  (k_with "storeName" => (k_here; k_dflt (first | (refine' storeI (by k_asm) (by k_asm) ?_ (by rfl) (by rfl); k_whole; intro h' t' k' F' N'; (try k_sweep)) | (refine' storeS (by k_asm) (by k_asm) ?_ (by rfl) (by rfl); k_whole; intro h' t' k' F' N'; (try k_sweep)) | (refine' storeV (by k_asm) (by k_asm) ?_ (by rfl) (by rfl); k_whole; intro h' k' F' N'; (try k_sweep)))))
  (k_with "call builtin:str.join" => (k_here; k_dflt (refine' join_abs (by k_asm) (by k_mem) (by assumption) (by assumption) rfl ?_); intro t' k'))
  (k_with "call type:enumerate" => refine Hold.out ?_)
  (k_with "exec For Tuple Call cons nil" => (k_here; (rename Fr _ _ _ _ => lF'); (with_unfolding_all refine' For_turns lF' ?_; k_whole)))
  (k_with "eval Constant int" => (refine m_int ?_))
  (k_with "eval Constant str" => (refine m_str ?_))
  (k_with "binaryOp Add int int" => (refine m_add ?_))
  (k_with "binaryOp Sub int int" => (refine m_sub ?_))
  (k_with "inplaceOp Add int int" => (refine m_iadd ?_))
  (k_with "unaryOp USub int" => (refine m_neg ?_))
  (k_with "execs nil" => (k_here; (try dsimp only); refine wpAny_execs_nil ?_))
  (k_with "execs cons" => (k_here; (try dsimp only); (try (refine gen_tok ?_; intro _)); refine execs_let ?_; intro _))
  exact True.intro
theorem map_close {S : List Str} {m m₀ : Str → Option Value} (h : ∀ x, S.contains x = false → m x = m₀ x) : m = fun x => if S.contains x then m x else m₀ x := by
  funext x
  cases h' : S.contains x with
  | true => rfl
  | false => simp [h x h']
theorem LtJ.start {base : List (Addr × Obj)} {l1 l : Addr} {lo : Obj} {c : Nat} {m₀ m : Str → Option Value} {led : List (Addr × Obj)} (e : m₀ = m) (h : led = (l, lo) :: (l1, W.listOf #[] c) :: base) : LtJ base l1 l lo m₀ 0 m led :=
  ⟨[], [], c, h, .nil, rfl, (fun _ h => nomatch h), m₀, by subst e; funext x; split <;> rfl⟩
set_option maxHeartbeats 2000000 in
theorem lt_con (w : World) (p : Program) (loose : List Str) (mean : ExcName → Option Value) (mg mb : Str → Option Value) (news : List (Addr × Obj)) (l : Addr) (vs : List Value) (ns : List Int) (hI : IntsAre vs ns) (hlen : ns.length ≤ 63) :
  ∀ (dp un : Nat) (gd : Option (List Code)) (cn : Str) (cs : Scope) (a : Addr) (ccd : Value) (cl : List (Str × Addr)) (outer : List Env) (A₀ : Around) (base h₀ : Heap) (L : Addr) (m : Str → Option Value) (s : Shared) (Q E : Value → Shared → Prop),
    Below A₀ base outer h₀ → Fr h₀ L s.heap m → (hd.heap_1 w.params).In h₀ → News h₀ L s.heap news → Top p loose mean mg mb h₀ → cs.kind = .function →
    dp + 3 < recursionLimit → un + 8 * 3 < cLine → h₀.IsList l vs.toArray →
    (∀ X t h' tk', Fr h₀ L h' m → News h₀ L h' news → Joined X → Q (.str X t) { s with heap := h', toks := tk' }) →
    wpAny (model PySem.Challenge.rw_ik0051_01.row.prog w) (ktrTop dp un gd cn cs L a ccd cl outer) (call (.ref 197) [.ref l]) Q E s := by
  k_fill
  intro dp un gd cn cs a ccd cl outer A₀ base h₀ L m s Q E B F X N T hk hd hu hl hret
  refine wpAny_call ?_
  k_dflt cell_enter
  rename Fr h₀ L _ m => FG2
  have hl2 := hl.at fun o e => FG2.keep _ o e
  k_steps
  refine Hold.mk ?_
  rename Fr _ _ _ _ => lF'
  rename News _ _ _ _ => lN'
  refine' ktu_enum (vs := [_, _, _, _, _, _, _]) (by rfl) lF' lN' (.head _) rfl rfl rfl ?_
  intro I hI'
  k_lt hI'
  refine enum_inv (LtJ news _ _ _ _) ?turn ?done _ 0 _ _ rfl (Nat.zero_le _) (LtJ.start rfl rfl)
  case turn =>
    rintro i x T t h tk m₁ news₁ Wp hx ⟨ys, ss, c, rfl, hS, hlen, hall, u, rfl⟩ hW hT F₁
    have hx2 : ∃ f u, x = .int f u ∧ 0 ≤ f ∧ f ≤ 7 := by
      match i, hx with
      | 0, hx => cases hx; exact ⟨_, _, rfl, by omega, by omega⟩
      | 1, hx => cases hx; exact ⟨_, _, rfl, by omega, by omega⟩
      | 2, hx => cases hx; exact ⟨_, _, rfl, by omega, by omega⟩
      | 3, hx => cases hx; exact ⟨_, _, rfl, by omega, by omega⟩
      | 4, hx => cases hx; exact ⟨_, _, rfl, by omega, by omega⟩
      | 5, hx => cases hx; exact ⟨_, _, rfl, by omega, by omega⟩
      | 6, hx => cases hx; exact ⟨_, _, rfl, by omega, by omega⟩
      | (i + 7), hx => simp at hx
    have hi7 : i < 7 := by
      rcases Nat.lt_or_ge i 7 with h | h
      · exact h
      · rw [List.getElem?_eq_none (by simpa using h)] at hx; cases hx
    obtain ⟨f, uf, rfl, hf0, hf7⟩ := hx2
    clear hx
    ktu_objs
    k_steps
    refine Hold.mk ?_
    refine' LCg.CompSrc.ledger (by rfl) ?F ?N (.head _) ?Z ?_
    case F => k_asm
    case N => k_asm
    case Z =>
      have h1 := length_pickNums_le hI (some (i : Int)) (some 63) (some 7)
      have h2 := (hI.pick (some (i : Int)) (some 63) (some 7)).length
      rw [sizeLine_eq]
      simp only [List.size_toArray]
      omega
    intro g2'
    refine rest_int 1000000 (.inr ⟨_, .head _, rfl, _, rfl⟩) ?_ ?_
    · intro i2 hi2 ys2 v I2 oI2 C2 oC2 D2 m2 h2 tk2 E' hv hC hvx F' N'
      have hvI : ∃ n t, v = .int n t := by
        have h3 := hI.pick (some (i : Int)) (some 63) (some 7)
        have hv' : (slicePick vs.toArray (some (i : Int)) (some 63) (some 7)).toList[i2]? = some v := by simpa using hv
        have hl3 : i2 < (pickNums ns (some (i : Int)) (some 63) (some 7)).length := by
          rw [← h3.length]
          rcases Nat.lt_or_ge i2 (slicePick vs.toArray (some (i : Int)) (some 63) (some 7)).toList.length with h | h
          · exact h
          · rw [List.getElem?_eq_none h] at hv'; cases hv'
        obtain ⟨t, ht⟩ := h3.get i2 _ (List.getElem?_eq_getElem hl3)
        rw [hv'] at ht
        exact ⟨_, t, Option.some.inj ht⟩
      obtain ⟨n2, t2, rfl⟩ := hvI
      k_steps
      refine Hold.mk ?_
      have e6 : (10 : Int) ^ Int.toNat 6 = 1000000 := by decide
      rw [e6]
      exact IntEnd.intro (Int.fmod_nonneg_of_pos _ (by omega)) (Int.fmod_lt_of_pos _ (by omega)) (by k_asm) (by k_asm) (fun _ hp => hp)
    · intro ys2 ns2 hI2 hl2 hb2
      have hsl := strsAre_len hS
      k_steps
      have f0 := Int.fmod_nonneg_of_pos (f + ns2.sum) (show (0 : Int) < 8 by omega)
      have f1 := Int.fmod_lt_of_pos (f + ns2.sum) (show (0 : Int) < 8 by omega)
      refine' hW _ _ _ _ _ ?F ?N ?off ⟨?sub, trivial⟩ ⟨ys ++ [_], ss ++ [_], _, rfl, strsAre_snoc hS, ?len, ?all, _, ?map⟩
      case F => k_asm
      case N =>
        refine' cb_drop (by assumption) (fun p hp => ?_)
        have hp2 : p ∈ (_, _) :: (_, _) :: (_, _) :: (_, _) :: news := hp
        rcases List.mem_cons.mp hp2 with rfl | hp2
        · exact .tail _ (.tail _ (.head _))
        · rcases List.mem_cons.mp hp2 with rfl | hp2
          · exact .tail _ (.tail _ (.tail _ (.head _)))
          · rcases List.mem_cons.mp hp2 with rfl | hp2
            · exact .tail _ (.tail _ (.tail _ (.tail _ (.head _))))
            · rcases List.mem_cons.mp hp2 with rfl | hp2
              · rw [← List.push_toArray]
                repeat (first | exact List.mem_cons_self | refine List.mem_cons_of_mem _ ?_)
              · exact .tail _ (.tail _ (.tail _ (.tail _ (.tail _ (.tail _ hp2)))))
      case off =>
        intro p hp q hq
        have hpI : @LT.lt Nat _ p.1 I := by
          rcases List.mem_cons.mp hp with rfl | hp
          · exact hI'.1
          · rcases List.mem_cons.mp hp with rfl | hp
            · exact hI'.2.1
            · exact allLt_mem hI'.2.2 p hp
        rcases List.mem_cons.mp hq with rfl | hq
        · exact Nat.ne_of_lt (Nat.lt_succ_of_lt hpI)
        · rw [List.mem_singleton.mp hq]; exact Nat.ne_of_lt hpI
      case sub => exact List.mem_cons_self
      case len => simp [hlen]
      case all =>
        intro y hy
        rcases List.mem_append.mp hy with hy | hy
        · exact hall y hy
        · refine ⟨((f + ns2.sum).fmod 8).toNat, by omega, ?_⟩
          rw [List.mem_singleton.mp hy, Int.toNat_of_nonneg f0]
      case map =>
        refine map_close (fun x h2 => ?_)
        have n1 : x ≠ "k" := fun e => by subst e; revert h2; decide
        have n2 : x ≠ "first" := fun e => by subst e; revert h2; decide
        have n3 : x ≠ "moved" := fun e => by subst e; revert h2; decide
        simp only [h2, n1, n2, n3, if_false, Bool.false_eq_true]
  case done =>
    rintro m₁ news₁ h tk ⟨ys, ss, c, rfl, hS, hlen, hall, u, rfl⟩ F₁ N₁
    have hsl := strsAre_len hS
    replace hlen : ss.length = 7 := hlen
    have hone : ∀ y ∈ ss, y.length = 1 := by
      intro y hy
      obtain ⟨j, hj, rfl⟩ := hall y hy
      match j, hj with
      | 0, _ | 1, _ | 2, _ | 3, _ | 4, _ | 5, _ | 6, _ | 7, _ => decide +kernel
    have hsum : (ss.map (·.length)).sum ≤ 7 := by
      have : ∀ l : List Str, (∀ y ∈ l, y.length = 1) → (l.map (·.length)).sum = l.length := by
        intro l
        induction l with
        | nil => intro _; rfl
        | cons a r ih => intro h; simp [h a (.head _), ih (fun y hy => h y (.tail _ hy))]; omega
      rw [this ss hone]
      omega
    have hok : (ss.map (·.length)).sum + ss.length * (Str.ofString "").length ≤ 16777216 := by
      have e1 : (Str.ofString "").length = 0 := by decide +kernel
      rw [e1]
      omega
    k_steps
    exact hret _ _ _ _ (by k_asm) (cb_drop (by assumption) (fun p hp => by repeat (first | exact hp | refine List.mem_cons_of_mem _ ?_))) ⟨ss, rfl, hlen, hall⟩
theorem rowsoff_Lt : True := by
  k_with_none
  exact True.intro
end Mine
end
section
open PySem PySem.W PyProof.Rows PySem.Spec PySem.Calls
set_option maxRecDepth 100000
namespace Mine
/-- the law's end: True comes back, the old objects stand, the laid-aside tables have but grown -/
noncomputable def EndT (s₁ : Shared) (tabs : List (Addr × Addr)) (r : Result) (s' : Shared) : Prop :=
  r = .ok (.ret (.bool true)) ∧ (∀ b o, (ghostOf s₁.heap tabs).get? b = some o → s'.heap.get? b = some o) ∧ GrownAll tabs s'.heap ∧ s'.os = s₁.os ∧ AllBare s'.gens
theorem endT_post {M : Model} {A : Around} {cd : Code} {s s₁ : Shared} {cw : ClaimW} {cl : Str → Option Addr} {mean : ExcName → Option Value} {args : List WData} {tabs : List (Addr × Addr)} (hT : TabsAt tabs s₁.heap) (hr : ∀ x, cw.raises args x = false)
    (hp : cw.post args (.bool true) args = true) (h : codeAny M A cd (EndT s₁ tabs) s) : codeAny M A cd (GoodWG cw cl mean args s₁) s := by
  refine codeAny_mono h (fun r s' he => ?_)
  obtain ⟨rfl, hk, hg, ho, hb⟩ := he
  refine ⟨.inl ⟨.bool true, .bool true, [], rfl, hr, .bool true, hp, fun _ => ⟨List.nodup_nil, fun a ha => nomatch ha⟩⟩, ⟨fun b o e => ?_, fun b o e => ?_⟩, ho, hb⟩
  · by_cases hm : b ∈ tabs.map (·.2)
    · obtain ⟨q, hq, rfl⟩ := List.mem_map.mp hm
      have e2 := (hT q hq).2
      rw [e] at e2
      cases e2
      obtain ⟨ps, hps⟩ := hg.get q hq
      exact .inr (.inl ⟨((hT q hq).1.tab (hT q hq).2).isCodeTable, rfl, #[], ps, rfl, by rw [Array.empty_append]; exact hps⟩)
    · exact .inl (hk b o (ghost_ne e hm))
  · by_cases hm : b ∈ tabs.map (·.2)
    · obtain ⟨q, hq, rfl⟩ := List.mem_map.mp hm
      obtain ⟨ps, hps⟩ := hg.get q hq
      exact ⟨_, hps⟩
    · exact ⟨o, hk b o (ghost_ne e hm)⟩
end Mine
end
section
open PySem PySem.W PyProof.Rows PySem.Spec PySem.Calls
set_option maxRecDepth 100000
namespace Mine
open PyProof.Rows.LCg
/-- an element's end in a comprehension whose element may make generators: the operating system stands, all generators are bare -/
noncomputable def EltV (h₀ : Heap) (L : Addr) (m : Str → Option Value) (s₁ : Shared) (own : List (Addr × Obj)) (I C D : Addr) (J : Value → List (Addr × Obj) → Prop) (y : Value) (s₂ : Shared) : Prop :=
  ∃ nw, s₂.os = s₁.os ∧ AllBare s₂.gens ∧ Fr h₀ L s₂.heap m ∧ News h₀ L s₂.heap (own ++ nw) ∧ Off3 I C D nw ∧ J y nw
section
variable {prog : Program} {w : World} {A : Around} {s₂ : Shared} {h₀ : Heap} {L : Addr} {m : Str → Option Value} {env : Env} {I : Addr} {fp : List Addr} {n : Nat} {P : Nat → Value → Prop} {St : Nat → Heap → Prop} {S : List (Addr × Obj) → Prop}
  {J : Nat → List Value → List (Addr × Obj) → Prop} {elt iter : Expr} {x : Str} {px pos : Pos} {scope : Scope} {cl : List (Str × Addr)} {R : Result → Shared → Prop}
theorem news_tail {h : Heap} {p : Addr × Obj} {nw : List (Addr × Obj)} (N : News h₀ L h (p :: nw)) : News h₀ L h nw := fun q hq => N q (.tail _ hq)
theorem loop_V {C D : Addr} (W : Walks prog w A I fp [I] n P St) (hsz : n ≤ sizeLine) (hIo : ∀ i h, St i h → ∃ o, h.get? I = some o)
    (hSt : ∀ i h h' o nw, St i h → h.get? I = some o → h'.get? I = some o → News h₀ L h' nw → S nw → St i h')
    (hx : scope.names.lookup x = some .local) (hkind : scope.kind = .function) (hIL : L ≠ I) (hI₀ : h₀.get? I = none) (hCL : C ≠ L) (hC₀ : h₀.get? C = none) (hDL : D ≠ L) (hD₀ : h₀.get? D = none)
    (hIC : I ≠ C) (hID : I ≠ D) (hDC : D ≠ C) (hCf : C ∉ fp) (hDf : D ∉ fp) (hJS : ∀ i ys nw, J i ys nw → S nw)
    (turn : ∀ i ys nw v oI oC m' s₃ (E' : Value → Shared → Prop), i < n → J i ys nw → s₃.os = s₂.os → AllBare s₃.gens → P i v → NsObj oC m' → m' x = some v → Fr h₀ L s₃.heap m →
      News h₀ L s₃.heap ((I, oI) :: (C, oC) :: (D, lst ys) :: nw) → Off3 I C D nw → 
      wpAny (model prog w) A (eval elt (compEnvC scope cl C env)) (EltV h₀ L m s₃ [(I, oI), (C, oC), (D, lst ys)] I C D (fun y nw' => J (i + 1) (ys ++ [y]) nw')) E' s₃)
    (done : ∀ s₃ m' ys nw, s₃.os = s₂.os → AllBare s₃.gens → Fr h₀ L s₃.heap m → News h₀ L s₃.heap ((D, lst ys) :: nw) → Off3 I C D nw → s₃.heap.Ns C m' → J n ys nw → R (.ok .next) s₃)
    {s : Shared} {m' : Str → Option Value} {nw : List (Addr × Obj)} (ho : s.os = s₂.os) (hg : AllBare s.gens) (hst : St 0 s.heap) (F : Fr h₀ L s.heap m) (hn : s.heap.Ns C m') (N : News h₀ L s.heap ((D, lst []) :: nw)) (off : Off3 I C D nw) (hJ : J 0 [] nw) :
    codeAny (model prog w) A (.compLoop (.ListComp elt [⟨.Name x px, iter, [], 0⟩] scope pos) 0 (.ref I) (.ref D) (compEnvC scope cl C env)) R s := by
  refine codeAny_compLoop_tests (fun k s' => ∃ i ys m' nw, i ≤ n ∧ k = n + 1 - i ∧ ys.length = i ∧ s'.os = s₂.os ∧ AllBare s'.gens ∧ St i s'.heap ∧ Fr h₀ L s'.heap m ∧ s'.heap.Ns C m' ∧
    News h₀ L s'.heap ((D, lst ys) :: nw) ∧ Off3 I C D nw ∧ J i ys nw) ?_ (n + 1) ⟨0, [], m', nw, Nat.zero_le _, rfl, rfl, ho, hg, hst, F, hn, N, off, hJ⟩
  rintro k s' ⟨i, ys, m₁, nw₁, hi, rfl, hyl, ho₁, hg₁, hst₁, F₁, hn₁, N₁, off₁, J₁⟩
  have o3 := off₁.mem
  have offI : ∀ p ∈ (D, lst ys) :: nw₁, p.1 ≠ I := fun p hp => by
    rcases List.mem_cons.mp hp with rfl | hp
    · exact Ne.symm hID
    · exact (o3 p hp).1
  rcases Nat.lt_or_ge i n with hlt | hge
  · refine W.item i _ _ _ hlt hst₁ fun v h₂ tk₂ hPv hst₂ kp => ?_
    refine wpAny_assign_Name (wpAny_storeName_local (lookup_relabel_local hx) (hn₁.at' fun o e => kp _ o (by simpa using Ne.symm hIC) e) (fun h₃ hn₃ sb => ?_) (by simp [compEnvC, relabel, hkind]))
    refine wpAny_tests_nil ?_
    rw [if_pos rfl]
    have hst₃ : St (i + 1) h₃ := W.frame _ _ _ hst₂ fun b hb o e => sb.extBut b o (fun q => hCf (by have q' : b = C := q; rwa [q'] at hb)) e
    obtain ⟨oI, gI⟩ := hIo _ _ hst₃
    obtain ⟨oC, gC, hoC⟩ := ns_obj hn₃
    have F₃ : Fr h₀ L h₃ m := (fr_but F₁ kp hIL hI₀).change sb hCL hC₀
    have N₂ : News h₀ L h₂ ((D, lst ys) :: nw₁) := news_but N₁ kp offI
    have N₃ : News h₀ L h₃ ((I, oI) :: (C, oC) :: (D, lst ys) :: nw₁) := fun p hp => by
      rcases List.mem_cons.mp hp with rfl | hp
      · exact ⟨gI, Ne.symm hIL, hI₀⟩
      rcases List.mem_cons.mp hp with rfl | hp
      · exact ⟨gC, hCL, hC₀⟩
      have z := N₂ p hp
      refine ⟨sb.extBut _ _ ?_ z.1, z.2⟩
      rcases List.mem_cons.mp hp with rfl | hp
      · exact hDC
      · exact (o3 p hp).2.1
    refine wpAny_mono (turn i ys nw₁ v oI oC _ _ _ hlt J₁ ho₁ hg₁ hPv hoC (by simp) F₃ N₃ off₁) (fun y s₄ h₄ => ?_) fun _ _ e => e
    obtain ⟨nw₄, ho₄, hg₄, F₄, N₄, off₄, J₄⟩ := h₄
    have o4 := off₄.mem
    have gI₄ := (N₄ (I, oI) (.head _)).1
    have gC₄ := (N₄ (C, oC) (.tail _ (.head _))).1
    have gD₄ := (N₄ (D, lst ys) (.tail _ (.tail _ (.head _)))).1
    have N₄' : News h₀ L s₄.heap nw₄ := fun p hp => N₄ p (.tail _ (.tail _ (.tail _ hp)))
    have hst₄ : St (i + 1) s₄.heap := hSt _ _ _ _ _ hst₃ gI gI₄ N₄' (hJS _ _ _ J₄)
    refine append_at (hsz := by show ys.toArray.size ≤ sizeLine; rw [List.size_toArray, hyl]; exact Nat.le_trans hi hsz) gD₄ fun h₅ sb₅ gD₅ => ?_
    refine ⟨n + 1 - (i + 1), by omega, i + 1, ys ++ [y], _, nw₄, hlt, rfl, by simp [hyl], ho₄.trans ho₁, hg₄, W.frame _ _ _ hst₄ fun b hb o e => sb₅.extBut b o (fun q => hDf (q ▸ hb)) e, F₄.change sb₅ hDL hD₀,
      (hoC.ns gC₄).sameBut sb₅ (Ne.symm hDC), fun p hp => ?_, off₄, J₄⟩
    rcases List.mem_cons.mp hp with rfl | hp
    · exact ⟨gD₅.trans (congrArg some (lst_snoc ys y)), hDL, hD₀⟩
    · exact ⟨sb₅.extBut _ _ (o4 p hp).2.2 (N₄' p hp).1, (N₄' p hp).2⟩
  · obtain rfl : i = n := Nat.le_antisymm hi hge
    refine W.done _ _ _ hst₁ fun h₂ tk₂ kp => ?_
    exact done _ _ ys nw₁ ho₁ hg₁ (fr_but F₁ kp hIL hI₀) (news_but N₁ kp offI) off₁ (hn₁.at' fun o e => kp _ o (by simpa using Ne.symm hIC) e) J₁
end
end Mine
end
section
open PySem PySem.W PyProof.Rows PySem.Spec PySem.Calls
set_option maxRecDepth 100000
namespace Mine
open PyProof.Rows.LCg
section
variable {prog : Program} {w : World} {A : Around} {E : Value → Shared → Prop} {h₀ : Heap} {L : Addr} {m : Str → Option Value} {env : Env} {elt iter : Expr} {x : Str} {px pos : Pos} {scope : Scope} {cl : List (Str × Addr)}
/-- where the source's iterator stands: how it walks, what holds between the turns, one turn, the end -/
noncomputable def SrcV (prog : Program) (w : World) (A : Around) (h₀ : Heap) (L : Addr) (m : Str → Option Value) (env : Env) (elt : Expr) (x : Str) (scope : Scope) (cl : List (Str × Addr)) (Fin : Shared → Addr → List Value → List (Addr × Obj) → Prop) (it : Value) (s₂ : Shared) : Prop :=
  ∃ (I : Addr) (fp : List Addr) (n : Nat) (P : Nat → Value → Prop) (St : Nat → Heap → Prop) (S : List (Addr × Obj) → Prop) (J : Nat → List Value → List (Addr × Obj) → Prop) (nw : List (Addr × Obj)),
    it = .ref I ∧ Walks prog w A I fp [I] n P St ∧ n ≤ sizeLine ∧ (∀ i h, St i h → ∃ o, h.get? I = some o) ∧
    (∀ i h h' o nw, St i h → h.get? I = some o → h'.get? I = some o → News h₀ L h' nw → S nw → St i h') ∧ St 0 s₂.heap ∧ (∀ b ∈ fp, b < s₂.heap.objs.size) ∧
    Fr h₀ L s₂.heap m ∧ News h₀ L s₂.heap nw ∧ L ≠ I ∧ h₀.get? I = none ∧ (∀ p ∈ nw, p.1 ≠ I) ∧ AllBare s₂.gens ∧ J 0 [] nw ∧ (∀ i ys nw, J i ys nw → S nw) ∧
    (∀ i ys nw v C D oI oC m' s₃ (E' : Value → Shared → Prop), i < n → J i ys nw → s₃.os = s₂.os → AllBare s₃.gens → P i v → NsObj oC m' → m' x = some v → Fr h₀ L s₃.heap m →
      News h₀ L s₃.heap ((I, oI) :: (C, oC) :: (D, lst ys) :: nw) → Off3 I C D nw →
      wpAny (model prog w) A (eval elt (compEnvC scope cl C env)) (EltV h₀ L m s₃ [(I, oI), (C, oC), (D, lst ys)] I C D (fun y nw' => J (i + 1) (ys ++ [y]) nw')) E' s₃) ∧
    (∀ s₃ D ys nw, s₃.os = s₂.os → AllBare s₃.gens → J n ys nw → Fin s₃ D ys nw)
theorem assign_comp_V {y : Str} {py spos : Pos} {s : Shared} {Q : Flow → Shared → Prop} (_F : Fr h₀ L s.heap m) (hLe : env.locals = L)
    (hsw : swapsWith (.ListComp elt [⟨.Name x px, iter, [], 0⟩] scope pos) (some (.Name y py)) spos.line env = pure true)
    (hclos : closureFor scope env = pure cl) (hcell : ∀ z ∈ scope.names, z.2 ≠ .cell) (hkind : scope.kind = .function)
    (hnames : ∀ z ∈ scope.names, z.2 = .local → scope.names.lookup z.1 = some .local) (hx : scope.names.lookup x = some .local)
    (hy : env.kindOf y = some .local) (hp : (env.scope.kind == .class || (env.scope.kind == .module && env.locals != env.globals)) = false)
    (h : wpAny (model prog w) A (eval iter env) (fun xv s₁ => wpAny (model prog w) A (pyIter xv) (SrcV prog w A h₀ L m env elt x scope cl
      (fun s₃ D ys nw => ∀ h k, Fr h₀ L h (fun z => if z = y then some (.ref D) else m z) → News h₀ L h ((D, lst ys) :: nw) → Off1 D nw → Q .next { s₃ with heap := h, toks := k })) E s₁) E s)
    (hs : ∀ x, foldedSetIterable iter env x = pure x := by intro _; rfl) :
    wpAny (model prog w) A (exec (.Assign [.Name y py] (.ListComp elt [⟨.Name x px, iter, [], 0⟩] scope pos) spos) env) Q E s := by
  subst hLe
  rw [exec_Assign_Name_used _ _ _ _ hsw]
  refine wpAny_bind (wpAny_standAt (wpAny_bind ?_))
  show wpAny _ A (do let _ ← comprehension (.ListComp elt [⟨.Name x px, iter, [], 0⟩] scope pos) scope env _ (newList []) false (eval iter env) (some (assign (.Name y py) env))) _ _ s
  refine wpAny_bind (wpAny_mono (wpAny_comprehension_free (use := some (assign (.Name y py) env)) (Q := fun _ s' => Q .next s') rfl hs hclos hkind hnames
    (wpAny_mono h (fun xv s₁ h₁ => wpAny_mono h₁ (fun it s₂ h₂ => ?_) fun _ _ e => e) fun _ _ e => e)) (fun _ s' hq => wpAny_pure (wpAny_pure hq)) fun _ _ e => e)
  obtain ⟨I, fp, n, P, St, S, J, nw, rfl, W, hsz, hIo, hSt, hst, hfp, F, N, hIL, hI₀, offI, G, hJ, hJS, turn, done⟩ := h₂
  refine wpAny_newObj_type (wpAny_newFunctionEnv hcell (by intro z hz; simp at hz) (fun h₁ hns sb => ?_) hkind)
  dsimp only at hns sb ⊢
  generalize hH2 : s₂.heap.push { cls := .type "list", dict := none, data := .seq ([] : List Value).toArray } = H2 at hns sb ⊢
  have hC : H2.objs.size = s₂.heap.objs.size + 1 := by rw [← hH2, Heap.size_push]
  have hlt : ∀ b, b < s₂.heap.objs.size → b ≠ H2.objs.size := fun b hb => by rw [hC]; exact Nat.ne_of_lt (Nat.lt_succ_of_lt hb)
  have hDC : s₂.heap.objs.size ≠ H2.objs.size := by rw [hC]; exact Nat.ne_of_lt (Nat.lt_succ_self _)
  have old : ∀ b o, s₂.heap.get? b = some o → h₁.get? b = some o := fun b o e => sb.extBut b o (hlt b (Heap.lt_size e)) (Heap.get?_push_of_some _ (hH2 ▸ Heap.get?_push_of_some _ e))
  have gD : h₁.get? s₂.heap.objs.size = some (lst []) := sb.extBut _ _ hDC (Heap.get?_push_of_some _ (hH2 ▸ Heap.get?_push_size _ rfl))
  have none₀ : ∀ a, s₂.heap.objs.size ≤ a → h₀.get? a = none := fun a ha => by
    cases e : h₀.get? a with
    | none => rfl
    | some o' => exact absurd (Heap.lt_size (F.keep a o' e)) (Nat.not_lt.mpr ha)
  have hD₀ := none₀ _ (Nat.le_refl _)
  have hC₀ : h₀.get? H2.objs.size = none := none₀ _ (by rw [hC]; exact Nat.le_succ _)
  have hLlt : env.locals < s₂.heap.objs.size := F.ns.lt
  have hIlt : I < s₂.heap.objs.size := hfp I (W.sub I (List.mem_singleton.mpr rfl))
  have hNlt : ∀ p ∈ nw, p.1 < s₂.heap.objs.size := fun p hp => Heap.lt_size (N p hp).1
  have hst₁ : St 0 h₁ := W.frame _ _ _ hst fun b _ o e => old b o e
  have N₁ : News h₀ env.locals h₁ ((s₂.heap.objs.size, lst []) :: nw) := fun p hp => by
    rcases List.mem_cons.mp hp with rfl | hp
    · exact ⟨gD, Ne.symm (Nat.ne_of_lt hLlt), hD₀⟩
    · exact ⟨old _ _ (N p hp).1, (N p hp).2⟩
  have off₁ : Off3 I H2.objs.size s₂.heap.objs.size nw := Off3.of fun p hp => ⟨offI p hp, hlt _ (hNlt p hp), Nat.ne_of_lt (hNlt p hp)⟩
  have key : ∀ s₃ : Shared, s₃.os = s₂.os → AllBare s₃.gens → s₃.heap = h₁ → codeAny (model prog w) A (.compLoop (.ListComp elt [⟨.Name x px, iter, [], 0⟩] scope pos) 0 (.ref I) (.ref s₂.heap.objs.size) (compEnvC scope cl H2.objs.size env))
      (compPost (model prog w) A E (some (assign (.Name y py) env)) (fun _ s' => Q .next s') (.ref s₂.heap.objs.size) H2.objs.size) s₃ := by
    rintro s₃ ho hg rfl
    refine loop_V (s₂ := s₂) W hsz hIo hSt hx hkind hIL hI₀ (Ne.symm (hlt _ hLlt)) hC₀ (Ne.symm (Nat.ne_of_lt hLlt)) hD₀ (hlt _ hIlt) (Nat.ne_of_lt hIlt) hDC (fun hm => Nat.lt_irrefl _ (Nat.lt_of_succ_lt (hC ▸ hfp _ hm)))
      (fun hm => Nat.lt_irrefl _ (hfp _ hm)) hJS (fun i ys nw v oI oC m' s₃ E' a1 a2 a3 a4 a5 a6 a7 a8 a9 a10 => turn i ys nw v _ _ oI oC m' s₃ E' a1 a2 a3 a4 a5 a6 a7 a8 a9 a10) ?_ ho hg hst₁ (F.keeps old) hns N₁ off₁ hJ
    intro s₄ m' ys nw₄ ho₄ hg₄ F₄ N₄ off₄ hn₄ J₄
    have o4 := off₄.mem
    show wpAny _ A (assign (.Name y py) env (.ref _)) _ _ _
    refine wpAny_assign_Name (wpAny_storeName_local hy F₄.ns (fun h₅ hn₅ sb₅ => ?_) hp)
    have hL₀ : h₀.get? env.locals = none := Heap.get?_none_of_le F₄.above
    have F₅ : Fr h₀ env.locals h₅ (fun z => if z = y then some (.ref s₂.heap.objs.size) else m z) := ⟨hn₅, fun b o e => sb₅.extBut b o (fun q => by rw [q, hL₀] at e; cases e) (F₄.keep b o e), F₄.above⟩
    refine ⟨m', hn₄.sameBut sb₅ (Ne.symm (hlt _ hLlt)), fun h₆ sb₆ => done s₄ _ ys nw₄ ho₄ hg₄ J₄ h₆ _ (F₅.change sb₆ (Ne.symm (hlt _ hLlt)) hC₀) (fun p hp => ?_) off₄.one⟩
    have z : h₅.get? p.1 = some p.2 := sb₅.extBut _ _ (N₄ p hp).2.1 (N₄ p hp).1
    refine ⟨sb₆.extBut _ _ ?_ z, (N₄ p hp).2⟩
    rcases List.mem_cons.mp hp with rfl | hp
    · exact hDC
    · exact (o4 p hp).2.1
  exact codeAny_compStart_list (key _ rfl G rfl) (W.self 0 _ _ _ hst₁ (key _ rfl G rfl))
end
end Mine
end
section
open PySem PySem.W PyProof.Rows PySem.Spec PySem.Calls
set_option maxRecDepth 100000
namespace Mine
open PyProof.Rows.LCg
section
variable {prog : Program} {w : World} {A : Around} {E : Value → Shared → Prop} {s : Shared} {h₀ : Heap} {L : Addr} {m : Str → Option Value} {env : Env} {elt : Expr} {x : Str} {scope : Scope} {cl : List (Str × Addr)} {news : List (Addr × Obj)} {Fin : Shared → Addr → List Value → List (Addr × Obj) → Prop}
theorem src_range {r : Addr} {a b : Int} {t u v : Tok} {n : Nat} (hh : A.handled = none) (F : Fr h₀ L s.heap m) (N : News h₀ L s.heap news) (G : AllBare s.gens) (hr : IsRange s.heap r a b 1 t u v) (hsm : Builtin.Range.small a b 1 = true)
    (hn : Builtin.Range.rangeSize a b 1 = ((n : Nat) : Int)) (hsz : n ≤ sizeLine) (J : Nat → List Value → List (Addr × Obj) → Prop) (hJ : J 0 [] news)
    (turn : ∀ i ys nw tk I C D oI oC m' s₃ (E' : Value → Shared → Prop), i < n → J i ys nw → s₃.os = s.os → AllBare s₃.gens → NsObj oC m' → m' x = some (.int (a + (i : Int)) tk) → Fr h₀ L s₃.heap m →
      News h₀ L s₃.heap ((I, oI) :: (C, oC) :: (D, lst ys) :: nw) → Off3 I C D nw →
      wpAny (model prog w) A (eval elt (compEnvC scope cl C env)) (EltV h₀ L m s₃ [(I, oI), (C, oC), (D, lst ys)] I C D (fun y nw' => J (i + 1) (ys ++ [y]) nw')) E' s₃)
    (done : ∀ s₃ D ys nw, s₃.os = s.os → AllBare s₃.gens → J n ys nw → Fin s₃ D ys nw) : wpAny (model prog w) A (pyIter (.ref r)) (SrcV prog w A h₀ L m env elt x scope cl Fin) E s := by
  refine wpAny_pyIter_range hr hsm ?_
  refine ⟨_, _, n, _, _, fun _ => True, J, news, rfl, range_walks hh a n, hsz, fun i h st => ⟨_, st⟩, fun i h h' o nw st e e' _ _ => ?_, ?_, fun b hb => ?_, F.keeps fun _ _ e => Heap.get?_push_of_some _ e, N.grown fun _ _ e => Heap.get?_push_of_some _ e,
    Nat.ne_of_lt F.ns.lt, next_is_new F, fun p hp => Nat.ne_of_lt (Heap.lt_size (N p hp).1), G, hJ, fun _ _ _ _ => trivial, ?_, done⟩
  · have st' : h.get? s.heap.objs.size = some _ := st
    show h'.get? s.heap.objs.size = some _
    rw [e', ← e]; exact st'
  · show IsRangeIter _ _ _ _ _
    rw [hn]
    simpa using Heap.get?_push_size _ rfl
  · rw [List.mem_singleton.mp hb]
    show s.heap.objs.size < (s.heap.push _).objs.size
    rw [Heap.size_push]; exact Nat.lt_succ_self _
  · rintro i ys nw v C D oI oC m' s₃ E' hi hJi ho hg ⟨tk, rfl⟩ hC hv F₃ N₃ off
    exact turn i ys nw tk _ C D oI oC m' s₃ E' hi hJi ho hg hC hv F₃ N₃ off
theorem src_tup {ax : Addr} {ot : Obj} {vs : List Value} {k : Nat} (hh : A.handled = none) (F : Fr h₀ L s.heap m) (N : News h₀ L s.heap news) (G : AllBare s.gens) (hm : (ax, ot) ∈ news) (hc : ot.cls = .type "tuple") (hd : ot.data = .seq vs.toArray k)
    (hsz : vs.length ≤ sizeLine) (J : Nat → List Value → List (Addr × Obj) → Prop) (hJ : J 0 [] news) (hJm : ∀ i ys nw, J i ys nw → (ax, ot) ∈ nw)
    (turn : ∀ i ys nw v I C D oI oC m' s₃ (E' : Value → Shared → Prop), vs[i]? = some v → J i ys nw → s₃.os = s.os → AllBare s₃.gens → NsObj oC m' → m' x = some v → Fr h₀ L s₃.heap m →
      News h₀ L s₃.heap ((I, oI) :: (C, oC) :: (D, lst ys) :: nw) → Off3 I C D nw →
      wpAny (model prog w) A (eval elt (compEnvC scope cl C env)) (EltV h₀ L m s₃ [(I, oI), (C, oC), (D, lst ys)] I C D (fun y nw' => J (i + 1) (ys ++ [y]) nw')) E' s₃)
    (done : ∀ s₃ D ys nw, s₃.os = s.os → AllBare s₃.gens → J vs.length ys nw → Fin s₃ D ys nw) : wpAny (model prog w) A (pyIter (.ref ax)) (SrcV prog w A h₀ L m env elt x scope cl Fin) E s := by
  have gax := (N _ hm).1
  have hl : s.heap.IsTuple ax vs.toArray := ⟨ot, gax, hc, k, hd⟩
  have hlt : ax < s.heap.objs.size := Heap.lt_size gax
  refine wpAny_pyIter_tuple hl ?_
  have up : ∀ b o, s.heap.get? b = some o → (s.heap.push { cls := .type "tuple_iterator", data := .fields #[.ref ax, .int 0 0] }).get? b = some o := fun b o e => Heap.get?_push_of_some _ e
  refine ⟨_, _, vs.length, _, _, fun nw => (ax, ot) ∈ nw, J, news, rfl, (by simpa using Walks.tuple hh s.heap.objs.size ax (Nat.ne_of_lt hlt) vs.toArray), hsz, fun i h st => ?_, fun i h h' o nw st e e' N' S' => ?_, ?_, fun b hb => ?_, F.keeps up, N.grown up,
    Nat.ne_of_lt F.ns.lt, next_is_new F, fun p hp => Nat.ne_of_lt (Heap.lt_size (N p hp).1), G, hJ, hJm, ?_, done⟩
  · obtain ⟨o, e, _⟩ := st.1
    exact ⟨o, e⟩
  · refine ⟨?_, ⟨ot, (N' _ S').1, hc, k, hd⟩⟩
    obtain ⟨o', q, r⟩ := st.1
    rw [e] at q; cases q
    exact ⟨o, e', r⟩
  · exact ⟨⟨_, Heap.get?_push_size _ rfl, rfl, rfl⟩, ⟨ot, up _ _ gax, hc, k, hd⟩⟩
  · show b < (s.heap.push _).objs.size
    rw [Heap.size_push]
    rcases List.mem_cons.mp hb with rfl | hb
    · exact Nat.lt_succ_self _
    · rw [List.mem_singleton.mp hb]; exact Nat.lt_succ_of_lt hlt
  · rintro i ys nw v C D oI oC m' s₃ E' hi hJi ho hg hv hC hvx F₃ N₃ off
    exact turn i ys nw v _ C D oI oC m' s₃ E' (by simpa using hv) hJi ho hg hC hvx F₃ N₃ off
end
end Mine
end
section
open PySem PySem.W PyProof.Rows PySem.Spec PySem.Calls
set_option maxRecDepth 100000
namespace Mine
open PyProof.Rows.LCg
noncomputable abbrev Rdg := List (Bool × List Str) × Option (List (Bool × List Str))
theorem PlacesIn.mono {led led' : List (Addr × Obj)} {lp : Addr} {P : List (Bool × List Str)} (h : PlacesIn led lp P) (sub : ∀ p ∈ led, p ∈ led') : PlacesIn led' lp P := by
  obtain ⟨pv, n, h1, h2, h3, h4⟩ := h
  exact ⟨pv, n, sub _ h1, h2, h3, fun i v p hv hp => (h4 i v p hv hp).mono sub⟩
theorem ReadIn.mono {led led' : List (Addr × Obj)} {v : Value} {P1 : List (Bool × List Str)} {P2 : Option (List (Bool × List Str))} (h : ReadIn led v P1 P2) (sub : ∀ p ∈ led, p ∈ led') : ReadIn led' v P1 P2 := by
  obtain ⟨rd, k, ah, e, h1, h2⟩ := h
  refine ⟨rd, k, ah, e, h1.mono sub, ?_⟩
  cases P2 with
  | none => exact sub _ h2
  | some P2 =>
    obtain ⟨bh, h3, h4⟩ := h2
    exact ⟨bh, sub _ h3, h4.mono sub⟩
/-- readings, one behind the other -/
noncomputable def ReadsAre (led : List (Addr × Obj)) (vs : List Value) (Rs : List Rdg) : Prop :=
  vs.length = Rs.length ∧ ∀ (i : Nat) (v : Value) (r : Rdg), vs[i]? = some v → Rs[i]? = some r → ReadIn led v r.1 r.2
theorem ReadsAre.nil {led : List (Addr × Obj)} : ReadsAre led [] [] := ⟨rfl, fun i v r h => by simp at h⟩
theorem ReadsAre.mono {led led' : List (Addr × Obj)} {vs : List Value} {Rs : List Rdg} (h : ReadsAre led vs Rs) (sub : ∀ p ∈ led, p ∈ led') : ReadsAre led' vs Rs := ⟨h.1, fun i v r hv hr => (h.2 i v r hv hr).mono sub⟩
theorem ReadsAre.snoc {led : List (Addr × Obj)} {vs : List Value} {Rs : List Rdg} {v : Value} {r : Rdg} (h : ReadsAre led vs Rs) (hr : ReadIn led v r.1 r.2) : ReadsAre led (vs ++ [v]) (Rs ++ [r]) := by
  refine ⟨by simp [h.1], fun i w q hw hq => ?_⟩
  rcases Nat.lt_trichotomy i vs.length with hi | hi | hi
  · rw [List.getElem?_append_left hi] at hw
    rw [List.getElem?_append_left (h.1 ▸ hi)] at hq
    exact h.2 i w q hw hq
  · subst hi
    rw [List.getElem?_append_right (Nat.le_refl _), Nat.sub_self] at hw
    rw [h.1, List.getElem?_append_right (Nat.le_refl _), Nat.sub_self] at hq
    simp at hw hq
    subst hw hq
    exact hr
  · rw [List.getElem?_eq_none (by simp; omega)] at hw
    cases hw
/-- what holds between the turns where readings are made: _translate's table, the readings so far, what stood before -/
noncomputable def RdsJ (base : List (Addr × Obj)) (Rs : Nat → List Rdg) (i : Nat) (ys : List Value) (nw : List (Addr × Obj)) : Prop :=
  ∃ ps tl, nw = (90, tabObj ps) :: (tl ++ base) ∧ TriplesOk ps.toList ∧ (∀ p ∈ tl ++ base, p.1 ≠ 90) ∧ Younger base tl ∧ ReadsAre tl ys (Rs i)
theorem rds_end {h₀ : Heap} {L : Addr} {m : Str → Option Value} {s₁ s₂ : Shared} {base : List (Addr × Obj)} {Rs : Nat → List Rdg} {r : Rdg} {i : Nat} {ys : List Value} {I C D : Addr} {oI oC : Obj} {ps ps' : Array Value} {tlp tl : List (Addr × Obj)} {y : Value}
    (ho : s₂.os = s₁.os) (hg : AllBare s₂.gens) (F : Fr h₀ L s₂.heap m) (N : News h₀ L s₂.heap (tl ++ (90, tabObj ps') :: (I, oI) :: (C, oC) :: (D, lst ys) :: (tlp ++ base))) (ht : TriplesOk ps'.toList)
    (off : Off3 I C D ((90, tabObj ps) :: (tlp ++ base))) (h90 : ∀ p ∈ tlp ++ base, p.1 ≠ 90) (hy : Younger base tlp) (hR : ReadsAre tlp ys (Rs i))
    (hr : ReadIn tl y r.1 r.2) (hY : Younger ((90, tabObj ps') :: (I, oI) :: (C, oC) :: (D, lst ys) :: (tlp ++ base)) tl) (hs : Rs (i + 1) = Rs i ++ [r]) :
    EltV h₀ L m s₁ [(I, oI), (C, oC), (D, lst ys)] I C D (fun y nw' => RdsJ base Rs (i + 1) (ys ++ [y]) nw') y s₂ := by
  have o3 := off.mem
  refine ⟨(90, tabObj ps') :: ((tl ++ tlp) ++ base), ho, hg, F, fun p hp => N p ?_, Off3.of fun p hp => ?_, ps', tl ++ tlp, rfl, ht, fun p hp => ?_, fun q hq p hp => ?_, ?_⟩
  · rcases List.mem_append.mp hp with hp | hp
    · exact List.mem_append_right _ (.tail _ (by
        rcases List.mem_cons.mp hp with rfl | hp
        · exact .head _
        rcases List.mem_cons.mp hp with rfl | hp
        · exact .tail _ (.head _)
        rw [List.mem_singleton.mp hp]; exact .tail _ (.tail _ (.head _))))
    · rcases List.mem_cons.mp hp with rfl | hp
      · exact List.mem_append_right _ (.head _)
      rw [List.append_assoc] at hp
      rcases List.mem_append.mp hp with hp | hp
      · exact List.mem_append_left _ hp
      · exact List.mem_append_right _ (.tail _ (.tail _ (.tail _ (.tail _ hp))))
  · rcases List.mem_cons.mp hp with rfl | hp
    · exact o3 (90, tabObj ps) (.head _)
    rw [List.append_assoc] at hp
    rcases List.mem_append.mp hp with hp | hp
    · exact ⟨Ne.symm (Nat.ne_of_lt (hY p hp (I, oI) (.tail _ (.head _)))), Ne.symm (Nat.ne_of_lt (hY p hp (C, oC) (.tail _ (.tail _ (.head _))))), Ne.symm (Nat.ne_of_lt (hY p hp (D, lst ys) (.tail _ (.tail _ (.tail _ (.head _))))))⟩
    · exact o3 p (.tail _ hp)
  · rw [List.append_assoc] at hp
    rcases List.mem_append.mp hp with hp | hp
    · exact Ne.symm (Nat.ne_of_lt (hY p hp (90, tabObj ps') (.head _)))
    · exact h90 p hp
  · rcases List.mem_append.mp hq with hq | hq
    · exact hY q hq p (.tail _ (.tail _ (.tail _ (.tail _ (List.mem_append_right _ hp)))))
    · exact hy q hq p hp
  · rw [hs]
    exact (hR.mono fun p hp => List.mem_append_right _ hp).snoc (hr.mono fun p hp => List.mem_append_left _ hp)
theorem news_last {h₀ h : Heap} {L : Addr} {a b c d : Addr × Obj} (N : News h₀ L h [a, b, c, d]) : News h₀ L h [d, a, b, c] := fun p hp => N p (by
  rcases List.mem_cons.mp hp with rfl | hp
  · exact .tail _ (.tail _ (.tail _ (.head _)))
  rcases List.mem_cons.mp hp with rfl | hp
  · exact .head _
  rcases List.mem_cons.mp hp with rfl | hp
  · exact .tail _ (.head _)
  rw [List.mem_singleton.mp hp]
  exact .tail _ (.tail _ (.head _)))
theorem news_90 {h₀ h : Heap} {L : Addr} {a b : Addr × Obj} {r : List (Addr × Obj)} (N : News h₀ L h (a :: b :: r)) : News h₀ L h (b :: a :: r) := news_swap N
noncomputable def figR (i : Nat) : List Rdg := (List.range i).map fun j => ([], some (figP (j + 1)))
theorem news_rot {h₀ h : Heap} {L : Addr} {a b c d : Addr × Obj} {r : List (Addr × Obj)} (N : News h₀ L h (a :: b :: c :: d :: r)) : News h₀ L h (d :: a :: b :: c :: r) := fun p hp => N p (by
  rcases List.mem_cons.mp hp with rfl | hp
  · exact .tail _ (.tail _ (.tail _ (.head _)))
  rcases List.mem_cons.mp hp with rfl | hp
  · exact .head _
  rcases List.mem_cons.mp hp with rfl | hp
  · exact .tail _ (.head _)
  rcases List.mem_cons.mp hp with rfl | hp
  · exact .tail _ (.tail _ (.head _))
  · exact .tail _ (.tail _ (.tail _ (.tail _ hp))))
theorem rot90 {I C D : Addr} {oI oC oD o : Obj} {rest : List (Addr × Obj)} (off : Off3 I C D ((90, o) :: rest)) (h90 : ∀ p ∈ rest, p.1 ≠ 90) : ∀ p ∈ (I, oI) :: (C, oC) :: (D, oD) :: rest, p.1 ≠ 90 := fun p hp => by
  have o := off.mem (90, o) (.head _)
  rcases List.mem_cons.mp hp with rfl | hp
  · exact Ne.symm o.1
  rcases List.mem_cons.mp hp with rfl | hp
  · exact Ne.symm o.2.1
  rcases List.mem_cons.mp hp with rfl | hp
  · exact Ne.symm o.2.2
  · exact h90 p hp
noncomputable def namesR : List Rdg := [([(false, [Str.ofString "."])], none), ([(false, [Str.ofString "."])], some [(false, [Str.ofString "."])])]
end Mine
end
section
open PySem PySem.W PyProof.Rows PySem.Spec PySem.Calls
set_option maxRecDepth 100000
namespace Mine
open PyProof.Rows.LCg
section
variable {prog : Program} {w : World} {A : Around} {E : Value → Shared → Prop} {s : Shared} {R : Result → Shared → Prop} {elt i1 i2 t1 t2 : Expr} {scope : Scope} {pos : Pos} {it acc : Value} {env : Env}
theorem turn_two0 : compTurn (.ListComp elt [⟨t1, i1, [], 0⟩, ⟨t2, i2, [], 0⟩] scope pos) 0 it acc env = (do
      standAt i1.pos
      match ← pyNext it with
      | none => pure (.done .next)
      | some v =>
        letOwnedTupleGo t1 it v
        assign t1 env v
        let mut ok := true
        for c in ([] : List Expr) do
          if ok then ok ← isTrue c env (eval c env)
        if ok then
          let x ← eval i2 env
          standAt i2.pos
          let x ← foldedSetIterable i2 env x
          let _ ← runOwn (.compStart (.ListComp elt [⟨t1, i1, [], 0⟩, ⟨t2, i2, [], 0⟩] scope pos) 1 (← holding [x] (pyIter x)) acc env) env
        again (.compLoop (.ListComp elt [⟨t1, i1, [], 0⟩, ⟨t2, i2, [], 0⟩] scope pos) 0 it acc env)) := by rfl
theorem turn_two1 : compTurn (.ListComp elt [⟨t1, i1, [], 0⟩, ⟨t2, i2, [], 0⟩] scope pos) 1 it acc env = (do
      standAt i2.pos
      match ← pyNext it with
      | none => pure (.done .next)
      | some v =>
        letOwnedTupleGo t2 it v
        assign t2 env v
        let mut ok := true
        for c in ([] : List Expr) do
          if ok then ok ← isTrue c env (eval c env)
        if ok then
          (do let _ ← call (.builtin "list.append") [acc, ← eval elt env])
        again (.compLoop (.ListComp elt [⟨t1, i1, [], 0⟩, ⟨t2, i2, [], 0⟩] scope pos) 1 it acc env)) := by rfl
theorem loop_two1 (I : Nat → Shared → Prop)
    (turn : ∀ n s, I n s → wpAny (model prog w) A (pyNext it) (fun r s₁ => match r with
      | none => R (.ok .next) s₁
      | some v => wpAny (model prog w) A (assign t2 env v) (fun _ s₂ => wpAny (model prog w) A (eval elt env) (fun x s₃ =>
          wpAny (model prog w) A (call (.builtin "list.append") [acc, x]) (fun _ s₄ => ∃ m, m < n ∧ I m s₄) (notedBy (model prog w) A env fun e s' => R (.error e) s') s₃)
          (notedBy (model prog w) A env fun e s' => R (.error e) s') s₂) (notedBy (model prog w) A env fun e s' => R (.error e) s') s₁) (notedBy (model prog w) A env fun e s' => R (.error e) s') s)
    (n : Nat) (h : I n s) (ht : ∀ v, letOwnedTupleGo t2 it v = pure () := by intro _; rfl) :
    codeAny (model prog w) A (.compLoop (.ListComp elt [⟨t1, i1, [], 0⟩, ⟨t2, i2, [], 0⟩] scope pos) 1 it acc env) R s := by
  refine codeAny_loop rfl I (fun n s hI => ?_) n h
  show wpAny _ A ((compTurn (.ListComp elt [⟨t1, i1, [], 0⟩, ⟨t2, i2, [], 0⟩] scope pos) 1 it acc env).onRaise (fun x => do noteFrame x env; theTreesLotGoes x)) _ _ s
  refine wpAny_noted ?_
  rw [turn_two1]
  refine wpAny_bind (wpAny_standAt (wpAny_bind (wpAny_mono (turn n s hI) (fun r s₁ h₁ => ?_) fun _ _ h' => h')))
  cases r with
  | none => exact wpAny_pure h₁
  | some v =>
    refine wpAny_bind (wpAny_of_eq (ht v) ?_)
    refine wpAny_bind (wpAny_mono h₁ (fun _ s₂ h₂ => ?_) fun _ _ h' => h')
    refine wpAny_bind (wpAny_tests_nil ?_)
    exact wpAny_bind (wpAny_bind (wpAny_mono h₂ (fun x s₄ h₄ => wpAny_bind (wpAny_mono h₄ (fun _ s₅ h₅ => wpAny_pure (wpAny_pure ⟨rfl, h₅⟩)) fun _ _ h' => h')) fun _ _ h' => h'))
theorem start_two1 (h0 : codeAny (model prog w) A (.compLoop (.ListComp elt [⟨t1, i1, [], 0⟩, ⟨t2, i2, [], 0⟩] scope pos) 1 it acc env) R s)
    (h : wpAny (model prog w) A (pyIter it) (fun it' s' => codeAny (model prog w) A (.compLoop (.ListComp elt [⟨t1, i1, [], 0⟩, ⟨t2, i2, [], 0⟩] scope pos) 1 it' acc env) R s')
      (notedBy (model prog w) A env fun x s' => R (.error x) s') s) :
    codeAny (model prog w) A (.compStart (.ListComp elt [⟨t1, i1, [], 0⟩, ⟨t2, i2, [], 0⟩] scope pos) 1 it acc env) R s := by
  refine codeAny_of_tree ?_
  show wpAny _ _ ((compStart (.ListComp elt [⟨t1, i1, [], 0⟩, ⟨t2, i2, [], 0⟩] scope pos) 1 it acc env).onRaise (fun x => do noteFrame x env; standAt theWindowsPlace)) _ _ s
  refine wpAny_notedAt ?_
  unfold compStart
  show wpAny _ _ (ask >>= _) _ _ s
  refine wpAny_bind (wpAny_askSetting (wpAny_ite ?_))
  split
  · first
      | exact wpAny_bind (wpAny_pure (wpAny_pure (And.intro rfl h0)))
      | exact wpAny_pure (And.intro rfl h0)
  · first
      | exact wpAny_bind (wpAny_rule (wpAny_bind (wpAny_standAt (wpAny_bind (wpAny_mono h (fun it' s' h' => wpAny_pure (And.intro rfl h')) fun _ _ x => x)))))
      | (refine wpAny_bind (wpAny_rule ?_); show wpAny _ _ (standAt i2.pos >>= _) _ _ s; exact wpAny_bind (wpAny_standAt (wpAny_bind (wpAny_mono h (fun it' s' h' => wpAny_pure (And.intro rfl h')) fun _ _ x => x))))
theorem loop_two0 (I : Nat → Shared → Prop)
    (turn : ∀ n s, I n s → wpAny (model prog w) A (pyNext it) (fun r s₁ => match r with
      | none => R (.ok .next) s₁
      | some v => wpAny (model prog w) A (assign t1 env v) (fun _ s₂ => wpAny (model prog w) A (eval i2 env) (fun xv s₃ =>
          wpAny (model prog w) A (pyIter xv) (fun it2 s₄ => codeAny (model prog w) A (.compStart (.ListComp elt [⟨t1, i1, [], 0⟩, ⟨t2, i2, [], 0⟩] scope pos) 1 it2 acc env)
            (fun r s₅ => match r with | .ok _ => ∃ m, m < n ∧ I m s₅ | .error e => cameBackBy (model prog w) A env (notedBy (model prog w) A env fun e s' => R (.error e) s') e s₅) s₄) (notedBy (model prog w) A env fun e s' => R (.error e) s') s₃)
          (notedBy (model prog w) A env fun e s' => R (.error e) s') s₂) (notedBy (model prog w) A env fun e s' => R (.error e) s') s₁) (notedBy (model prog w) A env fun e s' => R (.error e) s') s)
    (n : Nat) (h : I n s) (ht : ∀ v, letOwnedTupleGo t1 it v = pure () := by intro _; rfl) (hs : ∀ x, foldedSetIterable i2 env x = pure x := by intro _; rfl) :
    codeAny (model prog w) A (.compLoop (.ListComp elt [⟨t1, i1, [], 0⟩, ⟨t2, i2, [], 0⟩] scope pos) 0 it acc env) R s := by
  refine codeAny_loop rfl I (fun n s hI => ?_) n h
  show wpAny _ A ((compTurn (.ListComp elt [⟨t1, i1, [], 0⟩, ⟨t2, i2, [], 0⟩] scope pos) 0 it acc env).onRaise (fun x => do noteFrame x env; theTreesLotGoes x)) _ _ s
  refine wpAny_noted ?_
  rw [turn_two0]
  refine wpAny_bind (wpAny_standAt (wpAny_bind (wpAny_mono (turn n s hI) (fun r s₁ h₁ => ?_) fun _ _ h' => h')))
  cases r with
  | none => exact wpAny_pure h₁
  | some v =>
    refine wpAny_bind (wpAny_of_eq (ht v) ?_)
    refine wpAny_bind (wpAny_mono h₁ (fun _ s₂ h₂ => ?_) fun _ _ h' => h')
    refine wpAny_bind (wpAny_tests_nil ?_)
    show wpAny _ A (eval i2 env >>= fun x => standAt i2.pos >>= fun _ => foldedSetIterable i2 env x >>= fun x => holding [x] (pyIter x) >>= fun it2 =>
      runOwn (.compStart (.ListComp elt [⟨t1, i1, [], 0⟩, ⟨t2, i2, [], 0⟩] scope pos) 1 it2 acc env) env >>= fun _ => again (.compLoop (.ListComp elt [⟨t1, i1, [], 0⟩, ⟨t2, i2, [], 0⟩] scope pos) 0 it acc env)) _ _ s₂
    refine wpAny_bind (wpAny_mono h₂ (fun x s₃ h₃ => ?_) fun _ _ h' => h')
    refine wpAny_bind (wpAny_standAt (wpAny_bind (wpAny_of_eq (hs x) (wpAny_bind (wpAny_holding (wpAny_mono h₃ (fun it2 s₄ h₄ => ?_) fun _ _ h' => h'))))))
    refine wpAny_bind (wpAny_runOwn (codeAny_mono h₄ fun r s₅ h₅ => ?_))
    cases r with
    | ok f => exact wpAny_pure ⟨rfl, h₅⟩
    | error e => exact h₅
end
end Mine
end
section
open PySem PySem.W PyProof.Rows PySem.Spec PySem.Calls
set_option maxRecDepth 100000
namespace Mine
open PyProof.Rows.LCg
section
variable {prog : Program} {w : World} {A : Around} {E : Value → Shared → Prop} {s : Shared} {h₀ : Heap} {L : Addr} {m : Str → Option Value} {news : List (Addr × Obj)} {R : Result → Shared → Prop} {elt i1 i2 : Expr} {x y : Str} {px py pos : Pos} {scope : Scope} {cl : List (Str × Addr)} {env : Env} {Pv : Value → Prop}
/-- the inner loop: from a list with what has been taken to one with at most n2 more -/
theorem inner_two {I I2 C D : Addr} {oI : Obj} {a0 : Value} {b2 : Int} {n2 : Nat} {ys₀ : List Value} (hh : A.handled = none) (hn2 : ys₀.length + n2 ≤ sizeLine) (hy : scope.names.lookup y = some .local) (hkind : scope.kind = .function) (hxy : x ≠ y)
    (hL2 : L ≠ I2) (h₂ : h₀.get? I2 = none) (hCL : C ≠ L) (hC₀ : h₀.get? C = none) (hDL : D ≠ L) (hD₀ : h₀.get? D = none) (h2C : I2 ≠ C) (h2D : I2 ≠ D) (hDC : D ≠ C) (hIC : I ≠ C) (hID : I ≠ D) (h2I : I2 ≠ I) (off2 : ∀ p ∈ news, p.1 ≠ I2) (offC : ∀ p ∈ news, p.1 ≠ C) (offD : ∀ p ∈ news, p.1 ≠ D)
    (turn : ∀ j ys oI2 oC m' tk s₃ (E' : Value → Shared → Prop), j < n2 → s₃.os = s.os → AllBare s₃.gens → NsObj oC m' → m' x = some a0 → m' y = some (.int (b2 + (j : Int)) tk) → Fr h₀ L s₃.heap m →
      News h₀ L s₃.heap ((I2, oI2) :: (I, oI) :: (C, oC) :: (D, lst ys) :: news) →
      wpAny (model prog w) A (eval elt (compEnvC scope cl C env)) (fun v s₄ => Pv v ∧ s₄.os = s₃.os ∧ AllBare s₄.gens ∧ Fr h₀ L s₄.heap m ∧ News h₀ L s₄.heap ((I2, oI2) :: (I, oI) :: (C, oC) :: (D, lst ys) :: news)) E' s₃)
    (done : ∀ s₃ oC m' ys, s₃.os = s.os → AllBare s₃.gens → NsObj oC m' → Fr h₀ L s₃.heap m → News h₀ L s₃.heap ((I, oI) :: (C, oC) :: (D, lst ys) :: news) → ys.length ≤ ys₀.length + n2 → (∀ v ∈ ys, Pv v) → R (.ok .next) s₃)
    {m' : Str → Option Value} {oC : Obj} (G : AllBare s.gens) (hst : IsRangeIter s.heap I2 b2 (n2 : Int) 1) (F : Fr h₀ L s.heap m) (hC : NsObj oC m') (hx : m' x = some a0) (N : News h₀ L s.heap ((I, oI) :: (C, oC) :: (D, lst ys₀) :: news)) (hP : ∀ v ∈ ys₀, Pv v) :
    codeAny (model prog w) A (.compLoop (.ListComp elt [⟨.Name x px, i1, [], 0⟩, ⟨.Name y py, i2, [], 0⟩] scope pos) 1 (.ref I2) (.ref D) (compEnvC scope cl C env)) R s := by
  have W := range_walks (prog := prog) (w := w) (A := A) (I := I2) hh b2 n2
  refine loop_two1 (fun k s' => ∃ j ys oC m', j ≤ n2 ∧ k = n2 + 1 - j ∧ ys.length ≤ ys₀.length + j ∧ (∀ v ∈ ys, Pv v) ∧ s'.os = s.os ∧ AllBare s'.gens ∧ IsRangeIter s'.heap I2 (b2 + (j : Nat) * 1) ((n2 : Int) - (j : Nat)) 1 ∧ Fr h₀ L s'.heap m ∧ NsObj oC m' ∧ m' x = some a0 ∧
    News h₀ L s'.heap ((I, oI) :: (C, oC) :: (D, lst ys) :: news)) ?_ (n2 + 1) ⟨0, ys₀, oC, m', Nat.zero_le _, rfl, Nat.le_refl _, hP, rfl, G, by simpa using hst, F, hC, hx, N⟩
  rintro k s' ⟨j, ys, oC₁, m₁, hj, rfl, hyl, hP₁, ho₁, hg₁, hst₁, F₁, hC₁, hx₁, N₁⟩
  have offN : ∀ p ∈ (I, oI) :: (C, oC₁) :: (D, lst ys) :: news, p.1 ≠ I2 := fun p hp => by
    rcases List.mem_cons.mp hp with rfl | hp
    · exact Ne.symm h2I
    rcases List.mem_cons.mp hp with rfl | hp
    · exact Ne.symm h2C
    rcases List.mem_cons.mp hp with rfl | hp
    · exact Ne.symm h2D
    · exact off2 p hp
  rcases Nat.lt_or_ge j n2 with hlt | hge
  · refine W.item j _ _ _ hlt hst₁ fun v h₃ tk₃ hPv hst₃ kp => ?_
    obtain ⟨tk, rfl⟩ := hPv
    have N₃ := news_but N₁ kp offN
    have F₃ := fr_but F₁ kp hL2 h₂
    have hn₃ : h₃.Ns C m₁ := hC₁.ns (N₃ (C, oC₁) (.tail _ (.head _))).1
    refine wpAny_assign_Name (wpAny_storeName_local (lookup_relabel_local hy) hn₃ (fun h₄ hn₄ sb => ?_) (by simp [compEnvC, relabel, hkind]))
    obtain ⟨oC₄, gC, hC₄⟩ := ns_obj hn₄
    have g2 : h₄.get? I2 = some _ := sb.extBut _ _ h2C hst₃
    have F₄ : Fr h₀ L h₄ m := F₃.change sb hCL hC₀
    have N₄ : News h₀ L h₄ ((I2, _) :: (I, oI) :: (C, oC₄) :: (D, lst ys) :: news) := fun p hp => by
      rcases List.mem_cons.mp hp with rfl | hp
      · exact ⟨g2, Ne.symm hL2, h₂⟩
      rcases List.mem_cons.mp hp with rfl | hp
      · have z := N₃ (I, oI) (.head _)
        exact ⟨sb.extBut _ _ hIC z.1, z.2⟩
      rcases List.mem_cons.mp hp with rfl | hp
      · exact ⟨gC, hCL, hC₀⟩
      have z := N₃ p (.tail _ (.tail _ hp))
      refine ⟨sb.extBut _ _ ?_ z.1, z.2⟩
      rcases List.mem_cons.mp hp with rfl | hp
      · exact hDC
      · exact offC p hp
    refine wpAny_mono (turn j ys _ oC₄ _ tk _ _ hlt ho₁ hg₁ hC₄ (by simp [hxy, hx₁]) (by simp) F₄ N₄) (fun v s₅ h₅ => ?_) fun _ _ e => e
    obtain ⟨hv, ho₅, hg₅, F₅, N₅⟩ := h₅
    have gD := (N₅ (D, lst ys) (.tail _ (.tail _ (.tail _ (.head _))))).1
    refine append_at (hsz := by show ys.toArray.size ≤ sizeLine; rw [List.size_toArray]; omega) gD fun h₆ sb₆ gD₆ => ?_
    refine ⟨n2 + 1 - (j + 1), by omega, j + 1, ys ++ [v], oC₄, _, hlt, rfl, by simp; omega, fun u hu => ?_, ho₅.trans ho₁, hg₅, ?_, F₅.change sb₆ hDL hD₀, hC₄, by simp [hxy, hx₁], fun p hp => ?_⟩
    · rcases List.mem_append.mp hu with hu | hu
      · exact hP₁ u hu
      · rw [List.mem_singleton.mp hu]; exact hv
    · exact sb₆.extBut _ _ h2D (N₅ _ (.head _)).1
    · rcases List.mem_cons.mp hp with rfl | hp
      · have z := N₅ (I, oI) (.tail _ (.head _))
        exact ⟨sb₆.extBut _ _ hID z.1, z.2⟩
      rcases List.mem_cons.mp hp with rfl | hp
      · have z := N₅ (C, oC₄) (.tail _ (.tail _ (.head _)))
        exact ⟨sb₆.extBut _ _ (Ne.symm hDC) z.1, z.2⟩
      rcases List.mem_cons.mp hp with rfl | hp
      · exact ⟨gD₆.trans (congrArg some (lst_snoc ys v)), hDL, hD₀⟩
      have z := N₅ p (.tail _ (.tail _ (.tail _ (.tail _ hp))))
      exact ⟨sb₆.extBut _ _ (offD p hp) z.1, z.2⟩
  · obtain rfl : j = n2 := Nat.le_antisymm hj hge
    refine W.done _ _ _ hst₁ fun h₃ tk₃ kp => ?_
    exact done _ oC₁ m₁ ys ho₁ hg₁ hC₁ (fr_but F₁ kp hL2 h₂) (news_but N₁ kp offN) hyl hP₁
end
end Mine
end
section
open PySem PySem.W PyProof.Rows PySem.Spec PySem.Calls
set_option maxRecDepth 100000
namespace Mine
open PyProof.Rows.LCg
section
variable {prog : Program} {w : World} {A : Around} {E : Value → Shared → Prop} {s : Shared} {h₀ : Heap} {L : Addr} {m : Str → Option Value} {news : List (Addr × Obj)} {elt i1 i2 : Expr} {x y : Str} {px py pos : Pos} {scope : Scope} {cl : List (Str × Addr)} {env : Env} {Q : Value → Shared → Prop}
noncomputable def RgEnd (h₀ : Heap) (L : Addr) (m : Str → Option Value) (led : List (Addr × Obj)) (s : Shared) (Bd : Int → Nat → Prop) (xv : Value) (s₁ : Shared) : Prop :=
  ∃ r a b t u v n, xv = .ref r ∧ s₁.os = s.os ∧ AllBare s₁.gens ∧ Fr h₀ L s₁.heap m ∧ News h₀ L s₁.heap led ∧ IsRange s₁.heap r a b 1 t u v ∧ Builtin.Range.small a b 1 = true ∧ Builtin.Range.rangeSize a b 1 = ((n : Nat) : Int) ∧ Bd a n
noncomputable def ElEnd (h₀ : Heap) (L : Addr) (m : Str → Option Value) (led : List (Addr × Obj)) (s : Shared) (Pv : Value → Prop) (v : Value) (s₁ : Shared) : Prop :=
  Pv v ∧ s₁.os = s.os ∧ AllBare s₁.gens ∧ Fr h₀ L s₁.heap m ∧ News h₀ L s₁.heap led
noncomputable abbrev rangeItObj (a n : Int) : Obj := { cls := .type "range_iterator", data := .fields #[rawInt a, rawInt n, rawInt 1] }
theorem comp_two (Pv : Value → Prop) (B1 : Int → Nat → Prop) (B2 : Nat → Int → Nat → Prop) (N1 N2 : Nat) (hB1 : ∀ a n, B1 a n → a = 0 ∧ n = N1) (hB2 : ∀ i b n, B2 i b n → n ≤ N2) (hN : N1 * N2 ≤ sizeLine) (hh : A.handled = none)
    (F : Fr h₀ L s.heap m) (N : News h₀ L s.heap news)
    (hclos : closureFor scope env = pure cl) (hcell : ∀ z ∈ scope.names, z.2 ≠ .cell) (hkind : scope.kind = .function)
    (hnames : ∀ z ∈ scope.names, z.2 = .local → scope.names.lookup z.1 = some .local) (hx : scope.names.lookup x = some .local) (hy : scope.names.lookup y = some .local) (hxy : x ≠ y)
    (src : wpAny (model prog w) A (eval i1 env) (RgEnd h₀ L m news s B1) E s)
    (inner : ∀ i s₃ I oI C oC D ys m' tk (E' : Value → Shared → Prop), i < N1 → s₃.os = s.os → AllBare s₃.gens → NsObj oC m' → m' x = some (.int (i : Int) tk) → Fr h₀ L s₃.heap m → News h₀ L s₃.heap ((I, oI) :: (C, oC) :: (D, lst ys) :: news) →
      wpAny (model prog w) A (eval i2 (compEnvC scope cl C env)) (RgEnd h₀ L m ((I, oI) :: (C, oC) :: (D, lst ys) :: news) s₃ (B2 i)) E' s₃)
    (el : ∀ i j b2 n2 s₃ I2 oI2 I oI C oC D ys m' tk tk2 (E' : Value → Shared → Prop), i < N1 → B2 i b2 n2 → j < n2 → s₃.os = s.os → AllBare s₃.gens → NsObj oC m' → m' x = some (.int (i : Int) tk) → m' y = some (.int (b2 + (j : Int)) tk2) → Fr h₀ L s₃.heap m →
      News h₀ L s₃.heap ((I2, oI2) :: (I, oI) :: (C, oC) :: (D, lst ys) :: news) →
      wpAny (model prog w) A (eval elt (compEnvC scope cl C env)) (ElEnd h₀ L m ((I2, oI2) :: (I, oI) :: (C, oC) :: (D, lst ys) :: news) s₃ Pv) E' s₃)
    (fin : ∀ D ys s', ys.length ≤ N1 * N2 → (∀ v ∈ ys, Pv v) → s'.os = s.os → AllBare s'.gens → Fr h₀ L s'.heap m → News h₀ L s'.heap ((D, lst ys) :: news) → Off1 D news → Q (.ref D) s')
    (hs : ∀ x, foldedSetIterable i1 env x = pure x := by intro _; rfl) (hs2 : ∀ C x, foldedSetIterable i2 (compEnvC scope cl C env) x = pure x := by intro _ _; rfl) :
    wpAny (model prog w) A (eval (.ListComp elt [⟨.Name x px, i1, [], 0⟩, ⟨.Name y py, i2, [], 0⟩] scope pos) env) Q E s := by
  rw [eval_ListComp]
  refine wpAny_comprehension_free (use := none) rfl hs hclos hkind hnames (wpAny_mono src (fun xv s₁ h₁ => ?_) fun _ _ e => e)
  obtain ⟨r, a, b, t, u, v, n, rfl, ho₁, hg₁, F₁, N₁, hr, hsm, hn, hb⟩ := h₁
  obtain ⟨rfl, rfl⟩ := hB1 _ _ hb
  refine wpAny_pyIter_range hr hsm ?_
  have gIt := Heap.get?_push_size s₁.heap (o := rangeItObj 0 (Builtin.Range.rangeSize 0 b 1)) rfl
  show wpAny _ A (newList []) _ _ { s₁ with heap := s₁.heap.push (rangeItObj 0 (Builtin.Range.rangeSize 0 b 1)) }
  have F₂ := F₁.push (rangeItObj 0 (Builtin.Range.rangeSize 0 b 1))
  have N₂ : News h₀ L (s₁.heap.push (rangeItObj 0 (Builtin.Range.rangeSize 0 b 1))) news := N₁.grown fun _ _ e => Heap.get?_push_of_some _ e
  have hI₀ := next_is_new F₁
  have hIL : L ≠ s₁.heap.objs.size := Nat.ne_of_lt F₁.ns.lt
  have offI : ∀ p ∈ news, p.1 ≠ s₁.heap.objs.size := fun p hp => Nat.ne_of_lt (Heap.lt_size (N₁ p hp).1)
  have hIlt : s₁.heap.objs.size < (s₁.heap.push (rangeItObj 0 (Builtin.Range.rangeSize 0 b 1))).objs.size := by rw [Heap.size_push]; exact Nat.lt_succ_self _
  generalize s₁.heap.push (rangeItObj 0 (Builtin.Range.rangeSize 0 b 1)) = H at gIt F₂ N₂ hIlt ⊢
  refine wpAny_newObj_type (wpAny_newFunctionEnv hcell (by intro z hz; simp at hz) (fun h₃ hns sb => ?_) hkind)
  dsimp only at hns sb ⊢
  generalize hH2 : H.push { cls := .type "list", dict := none, data := .seq ([] : List Value).toArray } = H2 at hns sb ⊢
  have hC : H2.objs.size = H.objs.size + 1 := by rw [← hH2, Heap.size_push]
  have hlt : ∀ b, b < H.objs.size → b ≠ H2.objs.size := fun b hb => by rw [hC]; exact Nat.ne_of_lt (Nat.lt_succ_of_lt hb)
  have hDC : H.objs.size ≠ H2.objs.size := by rw [hC]; exact Nat.ne_of_lt (Nat.lt_succ_self _)
  have old : ∀ b o, H.get? b = some o → h₃.get? b = some o := fun b o e => sb.extBut b o (hlt b (Heap.lt_size e)) (Heap.get?_push_of_some _ (hH2 ▸ Heap.get?_push_of_some _ e))
  have gD : h₃.get? H.objs.size = some (lst []) := sb.extBut _ _ hDC (Heap.get?_push_of_some _ (hH2 ▸ Heap.get?_push_size _ rfl))
  have none₀ : ∀ a, H.objs.size ≤ a → h₀.get? a = none := fun a ha => by
    cases e : h₀.get? a with
    | none => rfl
    | some o' => exact absurd (Heap.lt_size (F₂.keep a o' e)) (Nat.not_lt.mpr ha)
  have hD₀ := none₀ _ (Nat.le_refl _)
  have hC₀ : h₀.get? H2.objs.size = none := none₀ _ (by rw [hC]; exact Nat.le_succ _)
  have hLlt : L < H.objs.size := F₂.ns.lt
  have hCL := Ne.symm (hlt _ hLlt)
  have hDL := Ne.symm (Nat.ne_of_lt hLlt)
  have hIC := hlt _ hIlt
  have hID := Nat.ne_of_lt hIlt
  have offD : ∀ p ∈ news, p.1 ≠ H.objs.size := fun p hp => Nat.ne_of_lt (Heap.lt_size (N₂ p hp).1)
  have offC : ∀ p ∈ news, p.1 ≠ H2.objs.size := fun p hp => hlt _ (Heap.lt_size (N₂ p hp).1)
  obtain ⟨oC, gC, hoC⟩ := ns_obj hns
  have F₃ : Fr h₀ L h₃ m := F₂.keeps old
  have N₃ : News h₀ L h₃ ((s₁.heap.objs.size, rangeItObj 0 (Builtin.Range.rangeSize 0 b 1)) :: (H2.objs.size, oC) :: (H.objs.size, lst []) :: news) := fun p hp => by
    rcases List.mem_cons.mp hp with rfl | hp
    · exact ⟨old _ _ gIt, Ne.symm hIL, hI₀⟩
    rcases List.mem_cons.mp hp with rfl | hp
    · exact ⟨gC, hCL, hC₀⟩
    rcases List.mem_cons.mp hp with rfl | hp
    · exact ⟨gD, hDL, hD₀⟩
    · exact ⟨old _ _ (N₂ p hp).1, (N₂ p hp).2⟩
  have key : ∀ s₄ : Shared, s₄.os = s.os → AllBare s₄.gens → s₄.heap = h₃ → codeAny (model prog w) A (.compLoop (.ListComp elt [⟨.Name x px, i1, [], 0⟩, ⟨.Name y py, i2, [], 0⟩] scope pos) 0 (.ref s₁.heap.objs.size) (.ref H.objs.size) (compEnvC scope cl H2.objs.size env))
      (compPost (model prog w) A E none Q (.ref H.objs.size) H2.objs.size) s₄ := by
    rintro s₄ ho₄ hg₄ rfl
    have W := range_walks (prog := prog) (w := w) (A := A) (I := s₁.heap.objs.size) hh 0 n
    refine loop_two0 (fun k s' => ∃ i ys oI oC m', i ≤ n ∧ k = n + 1 - i ∧ ys.length ≤ i * N2 ∧ (∀ v ∈ ys, Pv v) ∧ s'.os = s.os ∧ AllBare s'.gens ∧ IsRangeIter s'.heap s₁.heap.objs.size (0 + (i : Nat) * 1) ((n : Int) - (i : Nat)) 1 ∧ Fr h₀ L s'.heap m ∧ NsObj oC m' ∧
      News h₀ L s'.heap ((s₁.heap.objs.size, oI) :: (H2.objs.size, oC) :: (H.objs.size, lst ys) :: news)) ?_ (n + 1) ⟨0, [], _, oC, _, Nat.zero_le _, rfl, Nat.zero_le _, (fun _ h => nomatch h), ho₄, hg₄, ?_, F₃, hoC, N₃⟩ (hs := hs2 _)
    · rintro k s' ⟨i, ys, oI, oC₁, m₁, hi, rfl, hyl, hP₁, ho₅, hg₅, hst₅, F₅, hC₅, N₅⟩
      have offN : ∀ p ∈ (H2.objs.size, oC₁) :: (H.objs.size, lst ys) :: news, p.1 ≠ s₁.heap.objs.size := fun p hp => by
        rcases List.mem_cons.mp hp with rfl | hp
        · exact Ne.symm hIC
        rcases List.mem_cons.mp hp with rfl | hp
        · exact Ne.symm hID
        · exact offI p hp
      rcases Nat.lt_or_ge i n with hlt2 | hge
      · refine W.item i _ _ _ hlt2 hst₅ fun v h₆ tk₆ hPv hst₆ kp => ?_
        obtain ⟨tk, rfl⟩ := hPv
        have N₆ := news_but (news_tail N₅) kp offN
        have F₆ := fr_but F₅ kp hIL hI₀
        have hn₆ : h₆.Ns H2.objs.size m₁ := hC₅.ns (N₆ _ (.head _)).1
        refine wpAny_assign_Name (wpAny_storeName_local (lookup_relabel_local hx) hn₆ (fun h₇ hn₇ sb₇ => ?_) (by simp [compEnvC, relabel, hkind]))
        obtain ⟨oC₇, gC₇, hC₇⟩ := ns_obj hn₇
        obtain ⟨oI₇, hoI, gI₇⟩ : ∃ o, (∀ h : Heap, h.get? s₁.heap.objs.size = some o → IsRangeIter h s₁.heap.objs.size (0 + ((i + 1 : Nat) : Int) * 1) ((n : Int) - ((i + 1 : Nat) : Int)) 1) ∧ h₇.get? s₁.heap.objs.size = some o := ⟨_, fun _ e => e, sb₇.extBut _ _ hIC hst₆⟩
        have F₇ : Fr h₀ L h₇ m := F₆.change sb₇ hCL hC₀
        have N₇ : News h₀ L h₇ ((s₁.heap.objs.size, oI₇) :: (H2.objs.size, oC₇) :: (H.objs.size, lst ys) :: news) := fun p hp => by
          rcases List.mem_cons.mp hp with rfl | hp
          · exact ⟨gI₇, Ne.symm hIL, hI₀⟩
          rcases List.mem_cons.mp hp with rfl | hp
          · exact ⟨gC₇, hCL, hC₀⟩
          have z := N₆ p (.tail _ hp)
          refine ⟨sb₇.extBut _ _ ?_ z.1, z.2⟩
          rcases List.mem_cons.mp hp with rfl | hp
          · exact hDC
          · exact offC p hp
        refine wpAny_mono (inner i _ _ _ _ oC₇ _ ys _ tk _ hlt2 ho₅ hg₅ hC₇ (by simp) F₇ N₇) (fun xv s₈ h₈ => ?_) fun _ _ e => e
        obtain ⟨r2, b2, e2, t2, u2, v2, n2, rfl, ho₈, hg₈, F₈, N₈, hr2, hsm2, hn2, hB⟩ := h₈
        refine wpAny_pyIter_range hr2 hsm2 ?_
        have hk2 := hB2 _ _ _ hB
        have hle : ys.length + n2 ≤ sizeLine := by
          have h1 : i * N2 + N2 ≤ n * N2 := by rw [← Nat.succ_mul]; exact Nat.mul_le_mul_right _ hlt2
          omega
        have F₉ := F₈.push (rangeItObj b2 (Builtin.Range.rangeSize b2 e2 1))
        have N₉ := N₈.grown (h' := s₈.heap.push (rangeItObj b2 (Builtin.Range.rangeSize b2 e2 1))) fun _ _ e => Heap.get?_push_of_some _ e
        have lt8 : ∀ p ∈ (s₁.heap.objs.size, oI₇) :: (H2.objs.size, oC₇) :: (H.objs.size, lst ys) :: news, @LT.lt Nat _ p.1 s₈.heap.objs.size := fun p hp => Heap.lt_size (N₈ p hp).1
        have ho₉ : s₈.os = s.os := ho₈.trans ho₅
        have hst₉ : IsRangeIter (s₈.heap.push (rangeItObj b2 (Builtin.Range.rangeSize b2 e2 1))) s₈.heap.objs.size b2 (n2 : Int) 1 := by
          show Heap.get? _ _ = some _
          rw [← hn2]
          exact Heap.get?_push_size _ rfl
        have run : ∀ R : Result → Shared → Prop, (∀ (s₁₀ : Shared) oC₂ m₂ ys₁, s₁₀.os = s.os → AllBare s₁₀.gens → NsObj oC₂ m₂ → Fr h₀ L s₁₀.heap m → News h₀ L s₁₀.heap ((s₁.heap.objs.size, oI₇) :: (H2.objs.size, oC₂) :: (H.objs.size, lst ys₁) :: news) → ys₁.length ≤ ys.length + n2 → (∀ v ∈ ys₁, Pv v) → R (.ok .next) s₁₀) →
            ∀ s₉ : Shared, s₉.os = s.os → AllBare s₉.gens → s₉.heap = s₈.heap.push (rangeItObj b2 (Builtin.Range.rangeSize b2 e2 1)) → codeAny (model prog w) A (.compLoop (.ListComp elt [⟨.Name x px, i1, [], 0⟩, ⟨.Name y py, i2, [], 0⟩] scope pos) 1 (.ref s₈.heap.objs.size) (.ref H.objs.size) (compEnvC scope cl H2.objs.size env)) R s₉ := by
          intro R hR s₉ ho hg e9
          rw [← e9] at hst₉ F₉ N₉
          exact inner_two (Pv := Pv) (s := s₉) (I := s₁.heap.objs.size) (a0 := .int (i : Int) tk) (ys₀ := ys) hh hle hy hkind hxy (Nat.ne_of_lt F₈.ns.lt) (next_is_new F₈) hCL hC₀ hDL hD₀ (Ne.symm (Nat.ne_of_lt (lt8 _ (.tail _ (.head _))))) (Ne.symm (Nat.ne_of_lt (lt8 _ (.tail _ (.tail _ (.head _))))))
            hDC hIC hID (Ne.symm (Nat.ne_of_lt (lt8 _ (.head _)))) (fun p hp => Nat.ne_of_lt (lt8 p (.tail _ (.tail _ (.tail _ hp))))) offC offD
            (fun j ys₁ oI2 oC₂ m₂ tk2 s₁₀ E' hj ho' hg' hC' hx' hy' F' N' => el i j b2 n2 s₁₀ _ oI2 _ _ _ oC₂ _ ys₁ m₂ tk tk2 E' hlt2 hB hj (ho'.trans ho) hg' hC' hx' hy' F' N')
            (fun s₁₀ oC₂ m₂ ys₁ ho' hg' hC' F' N' hl' hP' => hR s₁₀ oC₂ m₂ ys₁ (ho'.trans ho) hg' hC' F' N' hl' hP') hg hst₉ F₉ hC₇ (by simp) N₉ hP₁
        have fin1 : ∀ (s₁₀ : Shared) oC₂ m₂ ys₁, s₁₀.os = s.os → AllBare s₁₀.gens → NsObj oC₂ m₂ → Fr h₀ L s₁₀.heap m → News h₀ L s₁₀.heap ((s₁.heap.objs.size, oI₇) :: (H2.objs.size, oC₂) :: (H.objs.size, lst ys₁) :: news) → ys₁.length ≤ ys.length + n2 → (∀ v ∈ ys₁, Pv v) →
            ∃ m', m' < n + 1 - i ∧ ∃ i ys oI oC m'', i ≤ n ∧ m' = n + 1 - i ∧ ys.length ≤ i * N2 ∧ (∀ v ∈ ys, Pv v) ∧ s₁₀.os = s.os ∧ AllBare s₁₀.gens ∧ IsRangeIter s₁₀.heap s₁.heap.objs.size (0 + (i : Nat) * 1) ((n : Int) - (i : Nat)) 1 ∧ Fr h₀ L s₁₀.heap m ∧ NsObj oC m'' ∧
              News h₀ L s₁₀.heap ((s₁.heap.objs.size, oI) :: (H2.objs.size, oC) :: (H.objs.size, lst ys) :: news) := by
          intro s₁₀ oC₂ m₂ ys₁ ho' hg' hC' F' N' hl' hP'
          refine ⟨n + 1 - (i + 1), by omega, i + 1, ys₁, _, oC₂, m₂, hlt2, rfl, ?_, hP', ho', hg', ?_, F', hC', N'⟩
          · rw [Nat.succ_mul]; omega
          · exact hoI _ (N' _ (.head _)).1
        exact start_two1 (run _ fin1 _ ho₉ hg₈ rfl) ((range_walks hh b2 n2).self 0 _ _ _ (by simpa using hst₉) (run _ fin1 _ ho₉ hg₈ rfl))
      · obtain rfl : i = n := Nat.le_antisymm hi hge
        refine W.done _ _ _ hst₅ fun h₆ tk₆ kp => ?_
        have N₆ := news_but (news_tail N₅) kp offN
        have F₆ := fr_but F₅ kp hIL hI₀
        refine ⟨m₁, hC₅.ns (N₆ _ (.head _)).1, fun h₇ sb₇ => fin _ ys _ hyl hP₁ ho₅ hg₅ (F₆.change sb₇ hCL hC₀) (fun p hp => ?_) ?_⟩
        · have z := N₆ p (.tail _ hp)
          refine ⟨sb₇.extBut _ _ ?_ z.1, z.2⟩
          rcases List.mem_cons.mp hp with rfl | hp
          · exact hDC
          · exact offC p hp
        · have mk : ∀ l : List (Addr × Obj), (∀ p ∈ l, p.1 ≠ H.objs.size) → Off1 H.objs.size l := by
            intro l
            induction l with
            | nil => intro _; trivial
            | cons q l ih => intro h; exact ⟨h q (.head _), ih fun p hp => h p (.tail _ hp)⟩
          exact mk news offD
    · have := (N₃ _ (.head _)).1
      show Heap.get? _ _ = some _
      rw [this, hn]
      simp [rangeItObj]
  exact codeAny_compStart_list (key _ ho₁ hg₁ rfl) ((range_walks hh 0 n).self 0 _ _ _ (by
    have := (N₃ _ (.head _)).1
    show Heap.get? _ _ = some _
    rw [this, hn]
    simp [rangeItObj]) (key _ ho₁ hg₁ rfl))
end
end Mine
end
section
open PySem PySem.W PyProof.Rows PySem.Spec PySem.Calls
set_option maxRecDepth 100000
namespace Mine
noncomputable def figPat (i : Nat) : Str := Str.ofString "*." ++ Txt.mul (Str.ofString "[0-9]") (1 + (i : Int))
noncomputable def digB (x : Str) (i : Int) : Bool :=
  Txt.item x i == "[" && Txt.item x (i+1) == "0" && Txt.item x (i+1+1) == "-" && Txt.item x (i+1+1+1) == "9" && Txt.item x (i+1+1+1+1) == "]" &&
  Txt.slice x (some (i+1)) (some (i+1+1+1+1)) == "0-9" && find4 x "-" (i+1+1) (i+1+1+1+1) == i+1+1 && Txt.slice x (some (i+1)) (some (i+1+1)) == "0" && find4 x "-" (i+1+1+3) (i+1+1+1+1) == -1 && Txt.slice x (some (i+1+1+1)) (some (i+1+1+1+1)) == "9"
theorem digB_at {x : Str} {i : Int} (h : digB x i = true) : DigAt x i := by
  simp only [digB, Bool.and_eq_true, beq_iff_eq] at h
  obtain ⟨⟨⟨⟨⟨⟨⟨⟨⟨a, b⟩, c⟩, d⟩, e⟩, f⟩, g⟩, h⟩, i⟩, j⟩ := h
  exact ⟨a, b, c, d, e, f, g, h, i, j⟩
noncomputable def figTurnB (y : Str) (i : Int) : Bool :=
  Txt.slice y (some i) (some (i+2)) == Str.ofString "[0" && Txt.item y i == Str.ofString "[" && Txt.find3 y (Str.ofString "]") i == i + 4 &&
  Txt.slice y (some (i+1)) (some (if Txt.find3 y (Str.ofString "]") i > i + 1 then Txt.find3 y (Str.ofString "]") i else i + 1)) == Str.ofString "0-9"
theorem figTurnB_at {y : Str} {i : Int} (h : figTurnB y i = true) : FigTurn y i := by
  simp only [figTurnB, Bool.and_eq_true, beq_iff_eq] at h
  obtain ⟨⟨⟨a, b⟩, c⟩, d⟩ := h
  exact ⟨a, b, c, d⟩
noncomputable def figY (k : Nat) : Str := Txt.slice (figText k) (some 4) (some (-3))
noncomputable def figAtB (x y : Str) (k : Nat) : Bool :=
  decide (x.length ≤ 100) && y.length == 4 + 5 * k && Txt.slice x none (some 4) == Str.ofString "(?s:" && Txt.slice x (some (-3)) none == Str.ofString ")\\Z" && Txt.slice x (some 4) (some (-3)) == y &&
  Txt.slice y (some 0) (some (0+2)) == Str.ofString ".*" && Txt.slice y (some (0+2)) (some (0+2+2)) == Str.ofString "\\." && Txt.item y (0+2) == Str.ofString "\\" && Txt.slice y (some (0+2+1)) (some (0+2+2)) == Str.ofString "."
theorem figAtB_at {x y : Str} {k : Nat} (h : figAtB x y k = true) : FigAt x y k := by
  simp only [figAtB, Bool.and_eq_true, beq_iff_eq, decide_eq_true_eq] at h
  obtain ⟨⟨⟨⟨⟨⟨⟨⟨a, b⟩, c⟩, d⟩, e⟩, f⟩, g⟩, h⟩, i⟩ := h
  exact ⟨a, b, c, d, e, f, g, h, i⟩
noncomputable def figAll (i : Nat) : Bool :=
  (figPat i).length == 2 + 5 * (i + 1) && Txt.item (figPat i) 0 == "*" && Txt.item (figPat i) (0+1) == "." && ((List.range (i + 1)).all fun (q : Nat) => digB (figPat i) (2 + 5 * (q : Int))) &&
  figAtB (figText (i + 1)) (figY (i + 1)) (i + 1) && ((List.range (i + 1)).all fun (q : Nat) => figTurnB (figY (i + 1)) (4 + 5 * (q : Int)))
theorem figAll_all : ((List.range 6).all figAll) = true := by decide +kernel
structure FigOk (i : Nat) : Prop where
  len : (figPat i).length = 2 + 5 * (i + 1)
  p0 : Txt.item (figPat i) 0 = "*"
  p1 : Txt.item (figPat i) (0+1) = "."
  digs : ∀ q : Nat, q < i + 1 → DigAt (figPat i) (2 + 5 * (q : Int))
  at_ : FigAt (figText (i + 1)) (figY (i + 1)) (i + 1)
  turn : ∀ q : Nat, q < i + 1 → FigTurn (figY (i + 1)) (4 + 5 * (q : Int))
theorem figOk (i : Nat) (hi : i < 6) : FigOk i := by
  have h := List.all_eq_true.mp figAll_all i (List.mem_range.mpr hi)
  simp only [figAll, Bool.and_eq_true, beq_iff_eq, List.all_eq_true, List.mem_range] at h
  obtain ⟨⟨⟨⟨⟨a, b⟩, c⟩, d⟩, e⟩, f⟩ := h
  exact ⟨a, b, c, fun q hq => digB_at (d q hq), figAtB_at e, fun q hq => figTurnB_at (f q hq)⟩
end Mine
end
section
open PySem PySem.W PyProof.Rows PySem.Spec PySem.Calls
set_option maxRecDepth 100000
namespace Mine
open PyProof.Rows.LCg
theorem off1_mem {D : Addr} : ∀ {l : List (Addr × Obj)}, Off1 D l → ∀ p ∈ l, p.1 ≠ D
  | [], _ => fun _ h => nomatch h
  | _ :: _, x => fun p hp => by
    rcases List.mem_cons.mp hp with rfl | hp
    · exact x.1
    · exact off1_mem x.2 p hp
/-- what the law has made when the readings stand: the cell that the loop turns ahead, the rest as it is -/
theorem law_ledger {h₀ h : Heap} {L D2 D D' c1 c2 : Addr} {ys2 ys : List Value} {ps : Array Value} {tl2 tl : List (Addr × Obj)} {oD o1 o2 : Obj}
    (N : News h₀ L h ((D2, lst ys2) :: (90, tabObj ps) :: (tl2 ++ ((D, lst ys) :: (tl ++ [(D', oD), (c1, o1), (c2, o2)])))))
    (off2 : Off1 D2 ((90, tabObj ps) :: (tl2 ++ ((D, lst ys) :: (tl ++ [(D', oD), (c1, o1), (c2, o2)])))))
    (hy2 : Younger ((D, lst ys) :: (tl ++ [(D', oD), (c1, o1), (c2, o2)])) tl2) (off : Off1 D (tl ++ [(D', oD), (c1, o1), (c2, o2)])) (hy : Younger [(D', oD), (c1, o1), (c2, o2)] tl)
    (hR2 : ReadsAre tl2 ys2 (figR 6)) (hR : ReadsAre tl ys namesR) (h90 : c1 ≠ 90) (hD' : D' ≠ c1) (h21 : c2 ≠ c1) {X : Str} {t : Tok} (hd : o2.data = .cell (some (.str X t))) (hX : Joined X) :
    ∃ rest Xt tt, o2.data = .cell (some (.str Xt tt)) ∧ Joined Xt ∧ News h₀ L h ((c1, o1) :: rest) ∧ (D2, lst ys2) ∈ rest ∧ ReadsAre rest ys2 (figR 6) ∧ (D, lst ys) ∈ rest ∧ ReadsAre rest ys namesR ∧ (c2, o2) ∈ rest ∧ (90, tabObj ps) ∈ rest ∧ ∀ p ∈ rest, p.1 ≠ c1 := by
  have m1 : (c1, o1) ∈ [(D', oD), (c1, o1), (c2, o2)] := .tail _ (.head _)
  refine ⟨(D2, lst ys2) :: (90, tabObj ps) :: (tl2 ++ ((D, lst ys) :: (tl ++ [(D', oD), (c2, o2)]))), X, t, hd, hX, fun p hp => N p ?_, .head _, hR2.mono fun p hp => .tail _ (.tail _ (List.mem_append_left _ hp)),
    .tail _ (.tail _ (List.mem_append_right _ (.head _))), hR.mono fun p hp => .tail _ (.tail _ (List.mem_append_right _ (.tail _ (List.mem_append_left _ hp)))),
    .tail _ (.tail _ (List.mem_append_right _ (.tail _ (List.mem_append_right _ (.tail _ (.head _)))))), .tail _ (.head _), fun p hp => ?_⟩
  · rcases List.mem_cons.mp hp with rfl | hp
    · exact .tail _ (.tail _ (List.mem_append_right _ (.tail _ (List.mem_append_right _ m1))))
    rcases List.mem_cons.mp hp with rfl | hp
    · exact .head _
    rcases List.mem_cons.mp hp with rfl | hp
    · exact .tail _ (.head _)
    refine .tail _ (.tail _ ?_)
    rcases List.mem_append.mp hp with hp | hp
    · exact List.mem_append_left _ hp
    refine List.mem_append_right _ ?_
    rcases List.mem_cons.mp hp with rfl | hp
    · exact .head _
    refine .tail _ ?_
    rcases List.mem_append.mp hp with hp | hp
    · exact List.mem_append_left _ hp
    refine List.mem_append_right _ ?_
    rcases List.mem_cons.mp hp with rfl | hp
    · exact .head _
    rw [List.mem_singleton.mp hp]
    exact .tail _ (.tail _ (.head _))
  · rcases List.mem_cons.mp hp with rfl | hp
    · exact Ne.symm (off1_mem off2 (c1, o1) (.tail _ (List.mem_append_right _ (.tail _ (List.mem_append_right _ m1)))))
    rcases List.mem_cons.mp hp with rfl | hp
    · exact Ne.symm h90
    rcases List.mem_append.mp hp with hp | hp
    · exact Ne.symm (Nat.ne_of_lt (hy2 p hp (c1, o1) (.tail _ (List.mem_append_right _ m1))))
    rcases List.mem_cons.mp hp with rfl | hp
    · exact Ne.symm (off1_mem off (c1, o1) (List.mem_append_right _ m1))
    rcases List.mem_append.mp hp with hp | hp
    · exact Ne.symm (Nat.ne_of_lt (hy p hp (c1, o1) m1))
    rcases List.mem_cons.mp hp with rfl | hp
    · exact hD'
    rw [List.mem_singleton.mp hp]
    exact h21
theorem figR_succ (i : Nat) : figR (i + 1) = figR i ++ [([], some (figP (i + 1)))] := by simp [figR, List.range_succ]
theorem name_cell {prog : Program} {w : World} {A : Around} {E : Value → Shared → Prop} {s : Shared} {h₀ : Heap} {L c : Addr} {news : List (Addr × Obj)} {o : Obj} {env : Env} {x : Str} {px : Pos} {v : Value} {Q : Value → Shared → Prop} (hk : env.scope.kind = .function) (hx : env.kindOf x = some .cell) (hc : env.cells.lookup x = some c)
    (N : News h₀ L s.heap news) (hm : (c, o) ∈ news) (hd : o.data = .cell (some v)) (h : Q v s) (hb : (x == ("__debug__" : Str)) = false) : wpAny (model prog w) A (eval (.Name x px) env) Q E s :=
  wpAny_Name (wpAny_loadName_cell hk hx hc ⟨o, N.get hm, hd⟩ h) hb
/-- a slice of the law's text -/
noncomputable def SlP (X : Str) (v : Value) : Prop := ∃ (i j : Int) (t : Tok), v = .str (Txt.slice X (some i) (some j)) t ∧ 0 ≤ i ∧ i < j ∧ j ≤ 7
end Mine
end
section
open PySem PySem.W PyProof.Rows PySem.Spec PySem.Calls
set_option maxRecDepth 100000
namespace Mine
/-- the signs of the pool -/
noncomputable def Sgn (c : Nat) : Prop := c = 46 ∨ c = 55 ∨ c = 48 ∨ c = 97 ∨ c = 45 ∨ c = 66 ∨ c = 57
theorem glued_toList (ss : List Str) : (Txt.join (Str.ofString "") ss).cps.toList = ss.flatMap (·.cps.toList) := by
  have e0 : (Str.ofString "").cps = #[] := by decide +kernel
  have go : ∀ (l : List Str) (acc : Array Nat), (l.foldl (fun acc p => acc ++ (Str.ofString "").cps ++ p.cps) acc).toList = acc.toList ++ l.flatMap (·.cps.toList) := by
    intro l
    induction l with
    | nil => intro acc; simp
    | cons a r ih =>
      intro acc
      rw [List.foldl_cons, ih, e0]
      simp
  cases ss with
  | nil => rfl
  | cons a r =>
    show ((r.foldl (fun acc p => acc ++ (Str.ofString "").cps ++ p.cps) a.cps)).toList = _
    rw [go]
    simp
theorem pool_sgn (j : Nat) (hj : j < 8) : ∃ c, Txt.item (Str.ofString ".70a-B.9") (j : Int) = ⟨#[c]⟩ ∧ Sgn c := by
  match j, hj with
  | 0, _ => exact ⟨46, by decide +kernel, by simp [Sgn]⟩
  | 1, _ => exact ⟨55, by decide +kernel, by simp [Sgn]⟩
  | 2, _ => exact ⟨48, by decide +kernel, by simp [Sgn]⟩
  | 3, _ => exact ⟨97, by decide +kernel, by simp [Sgn]⟩
  | 4, _ => exact ⟨45, by decide +kernel, by simp [Sgn]⟩
  | 5, _ => exact ⟨66, by decide +kernel, by simp [Sgn]⟩
  | 6, _ => exact ⟨46, by decide +kernel, by simp [Sgn]⟩
  | 7, _ => exact ⟨57, by decide +kernel, by simp [Sgn]⟩
theorem Joined.sgn {X : Str} (h : Joined X) : X.length = 7 ∧ ∀ c ∈ X.cps.toList, Sgn c := by
  obtain ⟨ss, rfl, hl, hs⟩ := h
  have h1 : ∀ l : List Str, (∀ y ∈ l, ∃ c, y = ⟨#[c]⟩ ∧ Sgn c) → (l.flatMap (·.cps.toList)).length = l.length ∧ ∀ c ∈ l.flatMap (·.cps.toList), Sgn c := by
    intro l
    induction l with
    | nil => intro _; exact ⟨rfl, fun _ h => nomatch h⟩
    | cons a r ih =>
      intro h
      obtain ⟨c, rfl, hc⟩ := h a (.head _)
      obtain ⟨i1, i2⟩ := ih fun y hy => h y (.tail _ hy)
      refine ⟨?_, fun d hd => ?_⟩
      · rw [List.flatMap_cons, List.length_append, i1, List.length_cons]
        show 1 + r.length = r.length + 1
        omega
      · rw [List.flatMap_cons] at hd
        rcases List.mem_append.mp hd with hd | hd
        · rw [List.mem_singleton.mp (show d ∈ [c] from hd)]; exact hc
        · exact i2 d hd
  obtain ⟨a, b⟩ := h1 ss fun y hy => by
    obtain ⟨j, hj, rfl⟩ := hs y hy
    exact pool_sgn j hj
  refine ⟨?_, fun c hc => b c (by rw [← glued_toList]; exact hc)⟩
  show (Txt.join (Str.ofString "") ss).cps.size = 7
  rw [← Array.length_toList, glued_toList, a, hl]
end Mine
end
section
open PySem PySem.W PyProof.Rows PySem.Spec PySem.Calls
set_option maxRecDepth 100000
namespace Mine
theorem noBool_match : typeLookup (.type "re.Match") "__bool__" = pure none := by rw [typeLookup_type, builtinLookup_eq_fast]; kernel_rfl
theorem noLen_match : typeLookup (.type "re.Match") "__len__" = pure none := by rw [typeLookup_type, builtinLookup_eq_fast]; kernel_rfl

section
variable {prog : Program} {w : World} {A : Around} {E : Value → Shared → Prop} {s : Shared} {h₀ : Heap} {L a : Addr} {m : Str → Option Value} {news : List (Addr × Obj)}

theorem truthy_match {o : Obj} {Q : Bool → Shared → Prop} (N : News h₀ L s.heap news) (hm : (a, o) ∈ news) (ho : IsM o) (h : Q true s) : wpAny (model prog w) A (truthy (.ref a)) Q E s := by
  have hT : s.TypeIs (.ref a) "re.Match" := ⟨o, N.get hm, ho.1⟩
  unfold truthy
  first
    | refine wpAny_bind (wpAny_callSpecial?_none (name := Str.ofString "__bool__") hT noBool_match ?_)
    | refine wpAny_bind (wpAny_pure (wpAny_bind (wpAny_callSpecial?_none (name := Str.ofString "__bool__") hT noBool_match ?_)))
  first
    | refine wpAny_bind (wpAny_specialOf (name := Str.ofString "__len__") hT noLen_match ?_)
    | refine wpAny_bind (wpAny_pure (wpAny_bind (wpAny_specialOf (name := Str.ofString "__len__") hT noLen_match ?_)))
  exact wpAny_pure h

theorem search_K {x : Str} {t : Tok} {Q : Value → Shared → Prop} (F : Fr h₀ L s.heap m) (N : News h₀ L s.heap news) (X₀ : (hd.heap_1 w.params).In h₀) (hx : x.cps.size ≤ 1000) (nl : ∀ i, x.cps.getD i 0 ≠ 10)
    (hno : hit x.cps (x.cps.size + 1) 0 = false → Q .none s)
    (hyes : hit x.cps (x.cps.size + 1) 0 = true → ∀ a h' o, Fr h₀ L h' m → News h₀ L h' ((a, o) :: news) → IsM o → Q (.ref a) { s with heap := h' }) :
    wpAny (model prog w) A (call (.builtin "re.Pattern.search") [.ref 50, .str x t]) Q E s := by
  refine call_search (X₀.keeps F.keep) hx nl hno fun e o1 o2 f1 m2 => ?_
  have hs : (s.heap.push o1).objs.size = s.heap.objs.size + 1 := Heap.size_push _ _
  have f2 : o2.isFreed = false := by
    obtain ⟨c, d, vs, hd⟩ := m2
    exact Obj.isFreed_of_fields hd
  have N1 := News.push F N o1 f1
  have N2 := News.push (F.push o1) N1 o2 f2
  rw [← hs]
  exact hyes e _ _ o2 ((F.push o1).push o2) (fun p hp => N2 p (by
    rcases List.mem_cons.mp hp with rfl | hp
    · exact .head _
    · exact .tail _ (.tail _ hp))) m2
end

noncomputable abbrev lib (x : Str) : Bool := !hit x.cps (x.cps.size + 1) 0
theorem rows_ReK : True := by
  k_with_none
  (k_with "truthy ref" => (k_here; (refine' truthy_match (by k_asm) (by exact List.mem_cons_self) (by assumption) ?_)))
  (k_with "call builtin:re.Pattern.search" => (k_here; (refine' search_K (by k_asm) (by k_asm) (by k_asm) (by assumption) (by assumption) ?_ ?_); intro hHit; rotate_left; intro hHit a' h' o' F' N' hM'; rotate_left))
  (k_with "getMethod ref" => (k_here; (with_reducible show wpAny _ _ (getMethod (Value.ref 50) _ _) _ _ _); (refine method_search (by k_in) ?_)))
  (k_with "eval Constant int" => (refine m_int ?_))
  (k_with "eval Constant str" => (refine m_str ?_))
  (k_with "binaryOp Add int int" => (refine m_add ?_))
  (k_with "binaryOp Sub int int" => (refine m_sub ?_))
  (k_with "inplaceOp Add int int" => (refine m_iadd ?_))
  (k_with "unaryOp USub int" => (refine m_neg ?_))
  (k_with "execs nil" => (k_here; (try dsimp only); refine wpAny_execs_nil ?_))
  (k_with "execs cons" => (k_here; (try dsimp only); (try (refine gen_tok ?_; intro _)); refine execs_let ?_; intro _))
  exact True.intro
set_option maxHeartbeats 8000000 in
theorem liberal_con (w : World) (p : Program) (loose : List Str) (mean : ExcName → Option Value) (mg mb : Str → Option Value) (news : List (Addr × Obj)) (x : Str) (t : Tok) (hx : x.cps.size ≤ 1000) (nl : ∀ i, x.cps.getD i 0 ≠ 10) :
   Con w p loose mean mg mb 64 [.str x t] 1 news (fun r tl => r = .bool (lib x) ∧ tl = []) := by
  unfold Con
  k_fill
  intro dp un gd cn cs a ccd cl outer A₀ base h₀ L m s Q E B F X N T hk hd hu hret
  refine wpAny_call ?_
  k_dflt cell_enter
  k_steps
  all_goals (refine hret _ _ _ [] (by k_asm) (by first | k_asm | exact cb_drop (by assumption) (fun _ hp => List.mem_cons_of_mem _ hp)) ⟨?_, rfl⟩; (rename hit _ _ _ = _ => e); simp [lib, e])

noncomputable abbrev hdnB (x : Str) : Bool := lib x && !(x == Str.ofString "") && !(Txt.item x 0 == Str.ofString ".") && !(Txt.item x (-1) == Str.ofString ".")
set_option maxHeartbeats 8000000 in
theorem hdn_con (w : World) (p : Program) (loose : List Str) (mean : ExcName → Option Value) (mg mb : Str → Option Value) (news : List (Addr × Obj)) (x : Str) (t : Tok) (hx : x.cps.size ≤ 1000) (nl : ∀ i, x.cps.getD i 0 ≠ 10) :
   Con w p loose mean mg mb 57 [.str x t] 1 news (fun r tl => r = .bool (hdnB x) ∧ tl = []) := by
  unfold Con
  k_fill
  intro dp un gd cn cs a ccd cl outer A₀ base h₀ L m s Q E B F X N T hk hd hu hret
  refine wpAny_call ?_
  k_dflt cell_enter
  k_steps
  all_goals (refine hret _ _ _ [] (by k_asm) (by first | k_asm | exact cb_drop (by assumption) (fun _ hp => List.mem_cons_of_mem _ hp)) ⟨?_, rfl⟩; (rename hit _ _ _ = _ => e); clear hret B F X N T hk hd hu; simp only [hdnB, lib, *, Bool.not_true, Bool.not_false, Bool.and_true, Bool.true_and, Bool.and_false, Bool.false_and])
theorem rowsoff_ReK : True := by
  k_with_none
  exact True.intro
end Mine
end
section
open PySem PySem.W PyProof.Rows PySem.Spec PySem.Calls
set_option maxRecDepth 100000
namespace Mine
noncomputable abbrev extD (x : Str) : Int := Txt.rfind x (Str.ofString ".")
noncomputable def extRoot (x : Str) : Str := if 0 < extD x then Txt.slice x none (some (extD x)) else x
noncomputable def extTail (x : Str) : Str := if 0 < extD x then Txt.slice x (some (extD x)) none else Txt.slice x none (some 0)
noncomputable abbrev ExtR (x : Str) (r : Value) (tl : List (Addr × Obj)) : Prop := ∃ D u1 u2, r = .ref D ∧ tl = [(D, ({ cls := .type "tuple", data := .seq #[.str (extRoot x) u1, .str (extTail x) u2] } : Obj))]
theorem ext_end {x u v : Str} {u1 u2 : Tok} {D : Addr} (e1 : extRoot x = u) (e2 : extTail x = v) : ExtR x (.ref D) [(D, ({ cls := .type "tuple", data := .seq #[.str u u1, .str v u2] } : Obj))] := ⟨D, u1, u2, rfl, by rw [e1, e2]⟩
set_option maxHeartbeats 8000000 in
theorem splitext0_con (w : World) (p : Program) (loose : List Str) (mean : ExcName → Option Value) (mg mb : Str → Option Value) (news : List (Addr × Obj)) (x : Str) (t t1 t2 : Tok) (hx : x.cps.size ≤ 1000)
   (hs : Txt.rfind x (Str.ofString "/") = -1) (ha : (Txt.slice x (some 0) (some 1) != Str.ofString ".") = true) (hz : Txt.rfind x (Str.ofString ".") ≠ 0) :
   Con w p loose mean mg mb 182 [.str x t, .str (Str.ofString "/") t1, .none, .str (Str.ofString ".") t2] 1 news (ExtR x) := by
  unfold Con
  k_fill
  intro dp un gd cn cs a ccd cl outer A₀ base h₀ L m s Q E B F X N T hk hd hu hret
  refine wpAny_call ?_
  k_dflt cell_enter
  k_steps
  all_goals first
    | (have hpos : 0 < extD x := by
         show 0 < Txt.rfind x (Str.ofString ".")
         omega
       refine' hret _ _ _ [(_, _)] ?F ?N (ext_end (if_pos hpos) (if_pos hpos))
       (case F => k_asm)
       (case N => k_asm))
    | (have hneg : ¬ 0 < extD x := by
         show ¬ 0 < Txt.rfind x (Str.ofString ".")
         first
           | omega
           | (intro hpos
              rename Passed _ _ _ => hP
              have hP0 := (hP 0 (by omega) (by omega)).2
              dsimp only at hP0
              rw [hs, show (-1 : Int) + 1 + 1 * 0 = 0 from rfl, show (0 : Int) + 1 = 1 from rfl, if_pos ha] at hP0
              exact absurd hP0 (by decide))
       refine' hret _ _ _ [(_, _)] ?F ?N (ext_end (if_neg hneg) (if_neg hneg))
       (case F => k_asm)
       (case N => k_asm))
end Mine
end
section
open PySem PySem.W PyProof.Rows PySem.Spec PySem.Calls
set_option maxRecDepth 100000
namespace Mine
theorem kind_isub : builtinKind "issubclass" = none := by decide +kernel
theorem plain_isub : plainId "issubclass" = true := by decide +kernel
theorem entry_isub : entryFor table "issubclass" = some Builtin.«issubclass» := entryFor_of_fast (by kernel_rfl)
theorem args_isub (a b : Value) : argsOk "issubclass" ⟨[a, b], []⟩ := by unfold argsOk; kernel_rfl
theorem kind_isubn : builtinKind "issubclass.nested" = none := by decide +kernel
theorem plain_isubn : plainId "issubclass.nested" = true := by decide +kernel
theorem entry_isubn : entryFor table "issubclass.nested" = some Builtin.«issubclass.nested» := entryFor_of_fast (by kernel_rfl)
theorem args_isubn (a b c : Value) : argsOk "issubclass.nested" ⟨[a, b, c], []⟩ := by unfold argsOk; kernel_rfl
theorem sub_str_str : isSubtype (.type "str") (.type "str") = pure true := by rw [isSubtype_type]; kernel_rfl
theorem sub_tup_tup : isSubtype (.type "tuple") (.type "tuple") = pure true := by rw [isSubtype_type]; kernel_rfl
theorem typeOf_str : typeOf (.type "str") = pure (.type "type") := by rfl

section
variable {prog : Program} {w : World} {A : Around} {E : Value → Shared → Prop} {s : Shared}
theorem isubn_str {d : Int} {Q : Fin → Shared → Prop} (h : Q (.done (.ret (.bool true))) s) : wpAny (model prog w) A (Builtin.«issubclass.nested» ⟨[.type "str", .type "str", .int d 0], []⟩) Q E s := by
  unfold Builtin.«issubclass.nested»
  dsimp only
  rw [typeOf_str]
  refine wpAny_bind (wpAny_pure ?_)
  rw [if_pos (by decide)]
  exact wpAny_bind (m := (isType (.type "str"))) (wpAny_pure (wpAny_pure h))

theorem call_issub {D : Addr} {Q : Value → Shared → Prop} (hD : s.heap.get? D = some { cls := .type "tuple", data := .seq #[.type "str", .type "bytes"] }) (h : Q (.bool true) s) :
    wpAny (model prog w) A (call (.builtin "issubclass") [.type "str", .ref D]) Q E s := by
  have hT : s.TypeIs (.ref D) "tuple" := ⟨_, hD, rfl⟩
  refine call_function_any kind_isub plain_isub entry_isub (args_isub _ _) ?_
  refine wpAny_pure (a := Fin.again (.builtin "issubclass.nested" ⟨[.type "str", .ref D, rawInt 0], []⟩)) ⟨plainId_quiet plain_isubn _, codeAny_builtin entry_isubn ?_⟩
  rw [Around.under_plainId plain_isubn _]
  unfold Builtin.«issubclass.nested»
  dsimp only [rawInt]
  refine wpAny_bind (wpAny_typeOf hT ?_)
  rw [if_neg (by decide)]
  refine wpAny_bind ?_
  unfold Builtin.Builtins.unionMembers
  refine wpAny_bind (wpAny_typeOf hT ?_)
  rw [if_neg (by decide)]
  refine wpAny_pure ?_
  refine wpAny_bind (wpAny_isInstance hT sub_tup_tup ?_)
  rw [if_pos rfl, if_neg (by decide)]
  refine wpAny_bind ?_
  unfold seqItems?
  refine wpAny_bind (wpAny_load hD (wpAny_pure ?_))
  refine wpAny_bind ?_
  dsimp only [Option.getD_some]
  refine wpAny_arrayLoop ?_
  rw [show (#[Value.type "str", Value.type "bytes"] : Array Value).toList = [Value.type "str", Value.type "bytes"] from rfl, List.forIn_cons]
  refine wpAny_bind (wpAny_bind (call_function_entry kind_isubn plain_isubn entry_isubn (args_isubn _ _ _) (isubn_str ⟨_, rfl, ?_⟩)))
  refine wpAny_bind (m := truthy (.bool true)) (wpAny_pure ?_)
  rw [if_pos rfl]
  exact wpAny_bind (m := ret (.bool true)) (wpAny_pure (wpAny_pure (wpAny_pure (wpAny_pure h))))
end

theorem rows_Sub : True := by
  k_with_none
  (k_with "call builtin:issubclass" => (k_here; (refine' call_issub (by exact News.get (by k_asm) (List.mem_cons_self)) ?_)))
  (k_with "eval Constant int" => (refine m_int ?_))
  (k_with "eval Constant str" => (refine m_str ?_))
  (k_with "binaryOp Add int int" => (refine m_add ?_))
  (k_with "binaryOp Sub int int" => (refine m_sub ?_))
  (k_with "inplaceOp Add int int" => (refine m_iadd ?_))
  (k_with "unaryOp USub int" => (refine m_neg ?_))
  (k_with "execs nil" => (k_here; (try dsimp only); refine wpAny_execs_nil ?_))
  (k_with "execs cons" => (k_here; (try dsimp only); (try (refine gen_tok ?_; intro _)); refine execs_let ?_; intro _))
  exact True.intro
set_option maxHeartbeats 8000000 in
theorem fspath_con (w : World) (p : Program) (loose : List Str) (mean : ExcName → Option Value) (mg mb : Str → Option Value) (news : List (Addr × Obj)) (x : Str) (t : Tok) :
   Con w p loose mean mg mb 175 [.str x t] 1 news (fun r tl => r = .str x t ∧ tl = []) := by
  unfold Con
  k_fill
  intro dp un gd cn cs a ccd cl outer A₀ base h₀ L m s Q E B F X N T hk hd hu hret
  refine wpAny_call ?_
  k_dflt cell_enter
  k_steps
  all_goals exact hret _ _ _ [] (by k_asm) (by first | k_asm | exact cb_drop (by assumption) (fun _ hp => List.mem_cons_of_mem _ hp)) ⟨rfl, rfl⟩
theorem rowsoff_Sub : True := by
  k_with_none
  exact True.intro
end Mine
end
section
open PySem PySem.W PyProof.Rows PySem.Spec PySem.Calls
set_option maxRecDepth 100000
namespace Mine
theorem rows_Spl : True := by
  k_with_none
  (k_with "call ref" => (k_here; (with_reducible show wpAny _ _ (call (Value.ref 182) _) _ _ _); (refine' con_useN (by k_asm) (by k_asm) (by k_asm) (by k_asm) (by k_asm) (by first | exact rfl | assumption) (by ktr_room) (by ktr_units) (splitext0_con _ _ _ _ _ _ _ _ _ _ _ (by assumption) (by assumption) (by assumption) (by assumption)) ?_); intro r' h' tk' tl' hR' F' N'; (obtain ⟨D', u1', u2', e1, e2⟩ := hR'; subst e1; subst e2); (try simp only [List.nil_append, List.cons_append] at N'); (try dsimp only); (try k_fold)))
  (k_with "call ref" => (k_here; (with_reducible show wpAny _ _ (call (Value.ref 175) _) _ _ _); (refine' con_useN (by k_asm) (by k_asm) (by k_asm) (by k_asm) (by k_asm) (by first | exact rfl | assumption) (by ktr_room) (by ktr_units) (fspath_con _ _ _ _ _ _ _ _ _) ?_); intro r' h' tk' tl' hR' F' N'; (obtain ⟨e1, e2⟩ := hR'; subst e1; subst e2); (try simp only [List.nil_append] at N'); (try dsimp only); (try k_fold)))
  (k_with "eval Constant int" => (refine m_int ?_))
  (k_with "eval Constant str" => (refine m_str ?_))
  (k_with "binaryOp Add int int" => (refine m_add ?_))
  (k_with "binaryOp Sub int int" => (refine m_sub ?_))
  (k_with "inplaceOp Add int int" => (refine m_iadd ?_))
  (k_with "unaryOp USub int" => (refine m_neg ?_))
  (k_with "execs nil" => (k_here; (try dsimp only); refine wpAny_execs_nil ?_))
  (k_with "execs cons" => (k_here; (try dsimp only); (try (refine gen_tok ?_; intro _)); refine execs_let ?_; intro _))
  exact True.intro
set_option maxHeartbeats 8000000 in
theorem splitext_con (w : World) (p : Program) (loose : List Str) (mean : ExcName → Option Value) (mg mb : Str → Option Value) (news : List (Addr × Obj)) (x : Str) (t : Tok) (hx : x.cps.size ≤ 1000)
   (hs : Txt.rfind x (Str.ofString "/") = -1) (ha : (Txt.slice x (some 0) (some 1) != Str.ofString ".") = true) (hz : Txt.rfind x (Str.ofString ".") ≠ 0) :
   Con w p loose mean mg mb 189 [.str x t] 3 news (ExtR x) := by
  unfold Con
  k_fill
  intro dp un gd cn cs a ccd cl outer A₀ base h₀ L m s Q E B F X N T hk hd hu hret
  refine wpAny_call ?_
  k_dflt cell_enter
  k_steps
  all_goals exact hret _ _ _ [(_, _)] (by k_asm) (by k_asm) (ext_end rfl rfl)
theorem rowsoff_Spl : True := by
  k_with_none
  exact True.intro
end Mine
end
section
open PySem PySem.W PyProof.Rows PySem.Spec PySem.Calls
set_option maxRecDepth 100000
namespace Mine
/-- a text that the loop may meet -/
noncomputable def OneOk (y : Str) : Prop := y.length ≤ 7 ∧ ∀ c ∈ y.cps.toList, Sgn c
theorem slice_ok {X : Str} {i j : Int} (hl : X.length = 7) (hs : ∀ c ∈ X.cps.toList, Sgn c) (h0 : 0 ≤ i) (h1 : i < j) (h2 : j ≤ 7) : OneOk (Txt.slice X (some i) (some j)) := by
  have hX : X.cps.toList.length = 7 := by rw [Array.length_toList]; exact hl
  have e := eq_of_beq (slice_closes (x := X) (i := i) (j := j) ⟨h0, by omega, by rw [hX]; omega⟩)
  rw [e]
  refine ⟨?_, fun c hc => hs c (List.mem_of_mem_drop (List.mem_of_mem_take hc))⟩
  show (List.toArray _).size ≤ 7
  rw [List.size_toArray, List.length_take, List.length_drop, hX]
  omega
theorem one_of {X : Str} {t0 : Tok} {ys : List Value} {i : Nat} {x : Value} (hl : X.length = 7) (hs : ∀ c ∈ X.cps.toList, Sgn c) (hp : ∀ v ∈ ys, SlP X v) (hx : ([.str (Str.ofString "") t0] ++ ys)[i]? = some x) : ∃ y t, x = .str y t ∧ OneOk y := by
  have hm := List.mem_of_getElem? hx
  rcases List.mem_cons.mp (show x ∈ .str (Str.ofString "") t0 :: ys from hm) with rfl | hm
  · have e : (Str.ofString "").cps = #[] := by decide +kernel
    exact ⟨_, _, rfl, by show (Str.ofString "").cps.size ≤ 7; rw [e]; decide, fun c hc => by rw [e] at hc; cases hc⟩
  · obtain ⟨a, b, t, rfl, h0, h1, h2⟩ := hp x hm
    exact ⟨_, _, rfl, slice_ok hl hs h0 h1 h2⟩
theorem sgn_ne10 {y : Str} (h : OneOk y) : ∀ i, y.cps.getD i 0 ≠ 10 := fun i e => by
  rcases Nat.lt_or_ge i y.cps.size with hi | hi
  · have hm : y.cps.getD i 0 ∈ y.cps.toList := by
      rw [Array.getD_eq_getD_getElem?, Array.getElem?_eq_getElem hi]
      simp
    have := h.2 _ hm
    rw [e] at this
    simp [Sgn] at this
  · rw [Array.getD_eq_getD_getElem?, Array.getElem?_eq_none hi] at e
    cases e
/-- does a reading take the text -/
noncomputable def takesR (r : Rdg) (y : Str) : Bool := match r.2 with | none => fitsB r.1 y | some P2 => takesB r.1 P2 y
theorem takes_con {w : World} {p : Program} {loose : List Str} {mean : ExcName → Option Value} {mg mb : Str → Option Value} {news : List (Addr × Obj)} {x : Str} {t : Tok} (hx : x.length ≤ 1000) {v : Value} {r : Rdg} (h : ReadIn news v r.1 r.2) :
    Con w p loose mean mg mb 221 [v, .str x t] 5 news (fun q tl => q = .bool (takesR r x) ∧ tl = []) := by
  obtain ⟨P1, P2⟩ := r
  obtain ⟨rd, k, ah, rfl, ⟨pv, n, h1, h2, h3, h4⟩, h5⟩ := h
  cases P2 with
  | none => exact takes_none_con w p loose mean mg mb news x t hx rd ah k P1 pv n h5 h1 h2 h3 h4
  | some P2 =>
    obtain ⟨bh, h6, ⟨pv2, n2, k1, k2, k3, k4⟩⟩ := h5
    exact takes_some_con w p loose mean mg mb news x t hx rd ah bh k P1 P2 pv pv2 n n2 h6 h1 h2 h3 h4 k1 k2 k3 k4
theorem news_ne {h₀ h : Heap} {L a b : Addr} {o o' : Obj} {led : List (Addr × Obj)} (N : News h₀ L h led) (h1 : (a, o) ∈ led) (h2 : (b, o') ∈ led) (hne : o.data ≠ o'.data) : a ≠ b := fun e => by
  subst e
  have e1 := (N _ h1).1
  have e2 := (N _ h2).1
  rw [e1] at e2
  exact hne (congrArg Obj.data (Option.some.inj e2))
theorem cons_ne {a c : Addr} {o : Obj} {rest : List (Addr × Obj)} (h1 : a ≠ c) (h : ∀ p ∈ rest, p.1 ≠ c) : ∀ p ∈ (a, o) :: rest, p.1 ≠ c := fun p hp => by
  rcases List.mem_cons.mp hp with rfl | hp
  · exact h1
  · exact h p hp
theorem news_pick {h₀ h : Heap} {L : Addr} {a b c d : Addr × Obj} {r : List (Addr × Obj)} (N : News h₀ L h (a :: b :: c :: d :: r)) : News h₀ L h (d :: a :: r) := fun p hp => N p (by
  rcases List.mem_cons.mp hp with rfl | hp
  · exact .tail _ (.tail _ (.tail _ (.head _)))
  rcases List.mem_cons.mp hp with rfl | hp
  · exact .head _
  · exact .tail _ (.tail _ (.tail _ (.tail _ hp))))
theorem for_ne {h₀ h : Heap} {L c l : Addr} {oc : Obj} {xs : Array Value} {v : Option Value} {rest : List (Addr × Obj)} (N : News h₀ L h ((c, oc) :: (l, { cls := .type "list", data := .seq xs }) :: rest)) (hc : oc.data = .cell v) (hne : ∀ p ∈ rest, p.1 ≠ c) :
    ∀ p ∈ (l, ({ cls := .type "list", data := .seq xs } : Obj)) :: rest, p.1 ≠ c :=
  cons_ne (news_ne N (.tail _ (.head _)) (.head _) (fun e => by rw [hc] at e; cases e)) hne
theorem ReadIn.isRef {led : List (Addr × Obj)} {v : Value} {P1 : List (Bool × List Str)} {P2 : Option (List (Bool × List Str))} (h : ReadIn led v P1 P2) : ∃ rd, v = .ref rd := by
  obtain ⟨rd, _, _, e, _⟩ := h
  exact ⟨rd, e⟩
theorem ReadsAre.at {led : List (Addr × Obj)} {vs : List Value} {Rs : List Rdg} (h : ReadsAre led vs Rs) {i : Nat} {v : Value} (hv : vs[i]? = some v) : ∃ r rd, v = .ref rd ∧ Rs[i]? = some r ∧ ReadIn led v r.1 r.2 := by
  have hi : i < Rs.length := by
    rw [← h.1]
    rcases Nat.lt_or_ge i vs.length with hl | hl
    · exact hl
    · rw [List.getElem?_eq_none hl] at hv; cases hv
  have hr := h.2 i v _ hv (List.getElem?_eq_getElem hi)
  obtain ⟨rd, e⟩ := hr.isRef
  exact ⟨_, rd, e, List.getElem?_eq_getElem hi, hr⟩
theorem ne_nilE {prog : Program} {w : World} {A : Around} {E : Value → Shared → Prop} {s : Shared} {h₀ : Heap} {L : Addr} {news : List (Addr × Obj)} {D D2 : Addr} {ys : List Value} {k k2 : Nat} {b : Bool} {Q : Value → Shared → Prop} (e : ys.isEmpty = !b) (N : News h₀ L s.heap news) (hm : (D, lstN ys k) ∈ news) (hm2 : (D2, lstN [] k2) ∈ news) (hu : A.units < cLine) (h : Q (.bool b) s) : wpAny (model prog w) A (compareOp .NotEq (.ref D) (.ref D2)) Q E s :=
  ne_nil N hm hm2 hu (by rw [e, Bool.not_not]; exact h)
theorem eq_nilE {prog : Program} {w : World} {A : Around} {E : Value → Shared → Prop} {s : Shared} {h₀ : Heap} {L : Addr} {news : List (Addr × Obj)} {D D2 : Addr} {ys : List Value} {k k2 : Nat} {b : Bool} {Q : Value → Shared → Prop} (e : ys.isEmpty = b) (N : News h₀ L s.heap news) (hm : (D, lstN ys k) ∈ news) (hm2 : (D2, lstN [] k2) ∈ news) (hu : A.units < cLine) (h : Q (.bool b) s) : wpAny (model prog w) A (compareOp .Eq (.ref D) (.ref D2)) Q E s :=
  eq_nil N hm hm2 hu (by rw [e]; exact h)
/-- two pairs of texts that are the same -/
theorem ne_tup {prog : Program} {w : World} {A : Around} {E : Value → Shared → Prop} {s : Shared} {h₀ : Heap} {L : Addr} {news : List (Addr × Obj)} {D D2 : Addr} {x y x' y' : Str} {u1 u2 v1 v2 : Tok} {Q : Value → Shared → Prop} (N : News h₀ L s.heap news)
    (hm : (D, ({ cls := .type "tuple", data := .seq #[.str x u1, .str y u2] } : Obj)) ∈ news) (hm2 : (D2, ({ cls := .type "tuple", data := .seq #[.str x' v1, .str y' v2] } : Obj)) ∈ news) (hu : A.units < cLine) (e1 : x = x') (e2 : y = y')
    (h : Q (.bool false) s) : wpAny (model prog w) A (compareOp .NotEq (.ref D) (.ref D2)) Q E s := by
  subst e1 e2
  have hl : s.heap.IsTuple D #[.str x u1, .str y u2] := ⟨_, N.get hm, rfl, _, rfl⟩
  have hb : s.heap.IsTuple D2 #[.str x v1, .str y v2] := ⟨_, N.get hm2, rfl, _, rfl⟩
  refine SeqAt.RcNeAt.tuples (e := fun _ => true) hl hb hu (fun j h1 _ => ?_) prog w E Q h
  have h1' : j < 2 := h1
  match j, h1' with
  | 0, _ => exact (beq_self_eq_true x) ▸ SeqAt.EqAt.str_str x u1 x v1
  | 1, _ => exact (beq_self_eq_true y) ▸ SeqAt.EqAt.str_str y u2 y v2
/-- is a figures' reading among those that take the text; a names' reading -/
noncomputable def numR (y : Str) : Bool := (figR 6).any fun r => takesR r y
noncomputable def namR (y : Str) : Bool := namesR.any fun r => takesR r y
theorem taken {Rs : List Rdg} {y : Str} {n : Nat} {ys : List Value} (hn : n = Rs.length) (h : ys = [] ↔ ∀ j, j < n → takesR (Rs.getD j ([], none)) y = false) : ys.isEmpty = !(Rs.any fun r => takesR r y) := by
  subst hn
  rw [Bool.eq_iff_iff, List.isEmpty_iff, h]
  simp only [Bool.not_eq_true', List.any_eq_false, List.mem_iff_getElem]
  constructor
  · rintro h1 r ⟨j, hj, rfl⟩
    have := h1 j hj
    rw [List.getD_eq_getElem?_getD, List.getElem?_eq_getElem hj] at this
    simpa using this
  · intro h1 j hj
    rw [List.getD_eq_getElem?_getD, List.getElem?_eq_getElem hj]
    have := h1 _ ⟨j, hj, rfl⟩
    simpa using this
/-- the law's ending: from the last dot on -/
noncomputable def lastS (y : Str) : Str := (Txt.split y (Str.ofString ".")).getD (-1 + ((Txt.split y (Str.ofString ".")).length : Int)).toNat Str.empty
noncomputable def endS (y : Str) : Str := if Txt.contains y (Str.ofString ".") = true then Str.ofString "." ++ lastS y else Str.ofString ""
theorem endS_dot {y : Str} {t : Tok} (h : (Builtin.Str.occurrences y (Str.ofString ".") 0 y.length 1).isEmpty = false) : Value.str (Str.ofString "." ++ (Txt.split y (Str.ofString ".")).getD (-1 + ((Txt.split y (Str.ofString ".")).length : Int)).toNat Str.empty) t = .str (endS y) t := by
  unfold endS Txt.contains
  rw [h]
  rfl
theorem endS_none {y : Str} {t : Tok} (h : (Builtin.Str.occurrences y (Str.ofString ".") 0 y.length 1).isEmpty = true) : Value.str (Str.ofString "") t = .str (endS y) t := by
  unfold endS Txt.contains
  rw [h]
  rfl
theorem ite_isnot {a b : Bool} {P Q : Prop} (e : a = b) (h : Q) : if (a != b) = true then P else Q := by
  subst e
  rw [if_neg (by simp)]
  exact h
/-- an expression whose ways meet -/
noncomputable def CutAt (h₀ : Heap) (L : Addr) (m : Str → Option Value) (led : List (Addr × Obj)) (s : Shared) (V : Value → Prop) (v : Value) (s₁ : Shared) : Prop :=
  V v ∧ ∃ h' tk', s₁ = { s with heap := h', toks := tk' } ∧ Fr h₀ L h' m ∧ News h₀ L h' led
theorem CutAt.intro {h₀ : Heap} {L : Addr} {m : Str → Option Value} {led all : List (Addr × Obj)} {s : Shared} {V : Value → Prop} {v : Value} {h' : Heap} {tk' : Nat} (hv : V v) (F : Fr h₀ L h' m) (N : News h₀ L h' all) (sub : ∀ p ∈ led, p ∈ all) : CutAt h₀ L m led s V v { s with heap := h', toks := tk' } :=
  ⟨hv, h', tk', rfl, F, fun p hp => N p (sub p hp)⟩
theorem cut_at {prog : Program} {w : World} {A : Around} {E : Value → Shared → Prop} {s : Shared} {h₀ : Heap} {L : Addr} {m : Str → Option Value} {led : List (Addr × Obj)} {e : Expr} {env : Env} {Q : Value → Shared → Prop} (V : Value → Prop) (_F : Fr h₀ L s.heap m) (_N : News h₀ L s.heap led)
    (h1 : wpAny (model prog w) A (eval e env) (CutAt h₀ L m led s V) E s) (h2 : ∀ v h' tk', V v → Fr h₀ L h' m → News h₀ L h' led → Q v { s with heap := h', toks := tk' }) : wpAny (model prog w) A (eval e env) Q E s :=
  wpAny_mono h1 (fun v s₁ ⟨hv, h', tk', e, F, N⟩ => e ▸ h2 v h' tk' hv F N) fun _ _ x => x
/-- split by a dot, its last part, as one value -/
theorem splitK {prog : Program} {w : World} {A : Around} {E : Value → Shared → Prop} {s : Shared} {h₀ : Heap} {L : Addr} {m : Str → Option Value} {news : List (Addr × Obj)} {x y : Str} {t u : Tok} {Q : Value → Shared → Prop} (hF : Fr h₀ L s.heap m) (hN : News h₀ L s.heap news) (hy : (y.length == 0) = false) (hsz : x.length + 2 ≤ sizeLine)
    (h : ∀ D vs h' k, StrsAre vs (Txt.split x y) → Fr h₀ L h' m → News h₀ L h' ((D, lstN vs 0) :: news) → (∀ p ∈ news, p.1 < D) → Q (.ref D) { s with heap := h', toks := k }) :
    wpAny (model prog w) A (call (.builtin "str.split") [.str x t, .str y u]) Q E s :=
  KSpl.split1 hF hN hy (fun D l h' k e S F N l1 => h D (strValues l) h' k (e ▸ S) F N l1) hsz
/-- between the turns: the cell, the slices' list, the rest -/
noncomputable def ForJ (c1 : Addr) (lsl : Addr × Obj) (rest : List (Addr × Obj)) (m₀ : Str → Option Value) (_ : Nat) (m : Str → Option Value) (led : List (Addr × Obj)) : Prop :=
  ∃ (oc : Obj) (v₀ : Option Value) (u : Str → Option Value), led = (c1, oc) :: lsl :: rest ∧ oc.data = .cell v₀ ∧ m = fun x => if (["number", "ending", "tail"] : List Str).contains x then u x else m₀ x
theorem ForJ.start {c1 : Addr} {lsl : Addr × Obj} {rest : List (Addr × Obj)} {m₀ : Str → Option Value} {oc : Obj} {v₀ : Option Value} (h : oc.data = .cell v₀) : ForJ c1 lsl rest m₀ 0 m₀ ((c1, oc) :: lsl :: rest) :=
  ⟨oc, v₀, m₀, rfl, h, by funext x; split <;> rfl⟩
end Mine
end
section
open PySem PySem.W PyProof.Rows PySem.Spec PySem.Calls
set_option maxRecDepth 100000
namespace Mine
section
variable {prog : Program} {w : World} {A : Around} {E : Value → Shared → Prop} {s : Shared} {h₀ : Heap} {L : Addr} {m : Str → Option Value} {led : List (Addr × Obj)} {env : Env} {iter : Expr} {x : Str} {px px' p1 p2 p3 pos : Pos} {scope : Scope} {cl : List (Str × Addr)} {k : Nat} {z : Str} {Q : Value → Shared → Prop}
noncomputable def isdC (c : Nat) : Bool := Txt.contains (Str.ofString "0123456789") ⟨#[c]⟩
noncomputable def isdV (v : Value) : Bool := match v with | .str y _ => Txt.contains (Str.ofString "0123456789") y | _ => false
theorem test_digit {cenv : Env} {c : Nat} {u : Tok} {s₃ : Shared} {m₃ : Str → Option Value} {E' : Value → Shared → Prop} (hk : cenv.scope.kind = .function) (hx : cenv.kindOf x = some .local) (hn : s₃.heap.Ns cenv.locals m₃) (hv : m₃ x = some (.str ⟨#[c]⟩ u)) (hb : (x == ("__debug__" : Str)) = false) :
    wpAny (model prog w) A (isTrue (.Compare (.Name x p1) [.NotIn] [.Constant (.str (Str.ofString "0123456789")) k p2] p3) cenv (eval (.Compare (.Name x p1) [.NotIn] [.Constant (.str (Str.ofString "0123456789")) k p2] p3) cenv))
      (fun ok s₄ => ok = !isdC c ∧ Keeps s₃ s₄) E' s₃ := by
  walk1
  refine wpAny_Name (wpAny_loadName_local hk hx hn hv ?_) hb
  walk1
  walk1
  walk1
  exact ⟨rfl, _, _, rfl, fun _ _ e => e⟩
theorem comp_digits (hclos : closureFor scope env = pure cl) (hcell : ∀ y ∈ scope.names, y.2 ≠ .cell) (hkind : scope.kind = .function) (hnames : ∀ y ∈ scope.names, y.2 = .local → scope.names.lookup y.1 = some .local) (hx : scope.names.lookup x = some .local) (hb : (x == ("__debug__" : Str)) = false)
    (hh : A.handled = none) (hz : z.cps.size ≤ 1000) (_F : Fr h₀ L s.heap m) (_N : News h₀ L s.heap led)
    (src : wpAny (model prog w) A (eval iter env) (CutAt h₀ L m led s (fun v => ∃ t, v = .str z t)) E s)
    (fin : ∀ D ys n h' tk', (ys.isEmpty = z.cps.toList.all isdC) → Fr h₀ L h' m → News h₀ L h' ((D, lstN ys n) :: led) → Q (.ref D) { s with heap := h', toks := tk' })
    (hs : ∀ x, foldedSetIterable iter env x = pure x := by intro _; rfl) :
    wpAny (model prog w) A (eval (.ListComp (.Name x px') [⟨.Name x px, iter, [.Compare (.Name x p1) [.NotIn] [.Constant (.str (Str.ofString "0123456789")) k p2] p3], 0⟩] scope pos) env) Q E s := by
  refine wpAny_ListComp_free (fun v => !isdV v) (fun v y => y = v) hclos hcell hkind hnames hx (wpAny_mono src (fun xv s₁ h₁ => ?_) fun _ _ e => e) hs
  obtain ⟨⟨t, rfl⟩, h1, tk1, rfl, F₁, N₁⟩ := h₁
  refine wpAny_pyIter_str fun o St W hst => ?_
  have up : ∀ b o', h1.get? b = some o' → (h1.push o).get? b = some o' := fun b o' e => Heap.get?_push_of_some _ e
  refine ⟨_, _, _, _, _, St, rfl, W A hh, by rw [sizeLine_eq]; omega, hst, fun b hb => by rw [List.mem_singleton.mp hb]; show _ < (h1.push o).objs.size; rw [Heap.size_push]; exact Nat.lt_succ_self _, ⟨?_, ?_⟩, ?_⟩
  · intro C i v s₃ m₃ E' hC hP hn hv hk ht
    obtain ⟨c, u, hc, rfl⟩ := hP
    refine wpAny_tests_one (wpAny_mono (test_digit (by simp [compEnvC, relabel, hkind]) (lookup_relabel_local hx) hn hv hb) (fun ok s₄ h₄ => ⟨h₄.1, h₄.2⟩) fun _ _ e => e)
  · intro C i v s₃ m₃ E' hC hP hp hn hv hk ht
    exact wpAny_Name (wpAny_loadName_local (by simp [compEnvC, relabel, hkind]) (lookup_relabel_local hx) hn hv ⟨rfl, _, _, rfl, fun _ _ e => e⟩) hb
  · intro D h' tk' ys vs hD hl hpl hlen hP hPair hk
    have hDn : h1.get? D = none := by
      cases e : h1.get? D with
      | none => rfl
      | some o' => rw [up _ _ e] at hD; cases hD
    have kp : ∀ b o', h1.get? b = some o' → h'.get? b = some o' := fun b o' e => hk b o' (fun hm => by
      rw [List.mem_singleton.mp hm] at e
      exact absurd (Heap.lt_size e) (Nat.lt_irrefl _)) (up b o' e)
    obtain ⟨n, gD⟩ := hpl
    refine fin D ys.toList n h' tk' ?_ (F₁.keeps kp) (fun p hp => ?_)
    · have e1 : ∀ {l₁ l₂ : List Value}, Paired (fun v y => y = v) l₁ l₂ → l₂ = l₁ := by
        intro l₁ l₂ h
        induction h with
        | nil => rfl
        | cons h _ ih => rw [h, ih]
      rw [e1 hPair, Bool.eq_iff_iff, List.isEmpty_iff, List.filter_eq_nil_iff, List.all_eq_true]
      constructor
      · intro h c hc
        obtain ⟨j, hj, rfl⟩ := List.mem_iff_getElem.mp hc
        rw [Array.length_toList] at hj
        have hj2 : j < vs.length := by rw [hlen]; exact hj
        obtain ⟨c', u, hc', hv⟩ := hP j vs[j] (List.getElem?_eq_getElem hj2)
        have := h vs[j] (List.getElem_mem hj2)
        rw [hv] at this
        rw [Array.getElem?_eq_getElem hj] at hc'
        have e2 : z.cps.toList[j] = c' := by simpa using Option.some.inj hc'
        rw [e2]
        simpa [isdV, isdC] using this
      · intro h v hv
        obtain ⟨j, hj, rfl⟩ := List.mem_iff_getElem.mp hv
        obtain ⟨c', u, hc', hv'⟩ := hP j vs[j] (List.getElem?_eq_getElem hj)
        rw [hv']
        have hm : c' ∈ z.cps.toList := by
          have := Array.mem_of_getElem? hc'
          simpa using this
        simpa [isdV, isdC] using h c' hm
    · rcases List.mem_cons.mp hp with rfl | hp
      · refine ⟨by simpa using gD, ?_, ?_⟩
        · intro e
          obtain ⟨oL, _, _, gL, _⟩ := F₁.ns
          show False
          have e' : D = L := e
          rw [e', gL] at hDn
          cases hDn
        · cases e : h₀.get? D with
          | none => rfl
          | some o' => rw [F₁.keep _ _ e] at hDn; cases hDn
      · exact ⟨kp _ _ (N₁ p hp).1, (N₁ p hp).2⟩
end
end Mine
end
section
open PySem PySem.W PyProof.Rows PySem.Spec PySem.Calls
set_option maxRecDepth 100000
namespace Mine
/-- a text of signs -/
noncomputable def Tx (l : List Nat) : Str := ⟨l.toArray⟩
theorem tx_eta (y : Str) : y = Tx y.cps.toList := by cases y; rfl
theorem tx_list (l : List Nat) : (Tx l).cps.toList = l := rfl
theorem tx_len (l : List Nat) : (Tx l).length = l.length := by show l.toArray.size = _; exact List.size_toArray ..
theorem tx_app (l r : List Nat) : Tx l ++ Tx r = Tx (l ++ r) := by
  show (⟨l.toArray ++ r.toArray⟩ : Str) = ⟨(l ++ r).toArray⟩
  rw [List.append_toArray]
theorem dotT : Str.ofString "." = Tx [46] := by decide +kernel
theorem aT : Str.ofString "a" = Tx [97] := by decide +kernel
theorem slT : Str.ofString "/" = Tx [47] := by decide +kernel
theorem nilT : Str.ofString "" = Tx [] := by decide +kernel
theorem from_n (l : List Nat) (n : Nat) (h : n ≤ l.length) : Txt.slice (Tx l) (some (n : Int)) none = Tx (l.drop n) := by
  rw [slice_from_eq (b := ((Tx l).length : Int)) (by omega) (by rw [tx_len]; omega) rfl, tx_len, tx_list]
  rw [Int.toNat_natCast, List.take_of_length_le]
  · rfl
  · rw [List.length_drop]; omega
theorem to_n (l : List Nat) (n : Nat) (h : n ≤ l.length) : Txt.slice (Tx l) none (some (n : Int)) = Tx (l.take n) := by
  rw [eq_of_beq (slice_closes_to (x := Tx l) (j := (n : Int)) ⟨by omega, by rw [tx_list]; omega⟩), tx_list]
  rw [show ((n : Int) - 0).toNat = n by omega, show (0 : Int).toNat = 0 from rfl, List.drop_zero]
  rfl
theorem last_uniq {c : Nat} {a b a' b' : List Nat} (h : a ++ c :: b = a' ++ c :: b') (hb : c ∉ b) (hb' : c ∉ b') : a = a' ∧ b = b' := by
  rcases List.append_eq_append_iff.mp h with ⟨as, e1, e2⟩ | ⟨bs, e1, e2⟩
  · cases as with
    | nil => exact ⟨by simpa using e1.symm, by simpa using e2⟩
    | cons z zs =>
      have := (List.cons.inj e2).2
      exact absurd (this ▸ List.mem_append_right zs List.mem_cons_self) hb
  · cases bs with
    | nil => exact ⟨by simpa using e1, by simpa using e2.symm⟩
    | cons z zs =>
      have := (List.cons.inj e2).2
      exact absurd (this ▸ List.mem_append_right zs List.mem_cons_self) hb'
theorem rfind_one (l : List Nat) (c : Nat) : (c ∉ l ∧ Txt.rfind (Tx l) (Tx [c]) = -1) ∨ ∃ a b, l = a ++ c :: b ∧ c ∉ b ∧ Txt.rfind (Tx l) (Tx [c]) = (a.length : Int) := by
  have at_iff : ∀ i, StrLaws.At (Tx l) (Tx [c]) (Tx l).length i ↔ l[i]? = some c := fun i => by
    exact StrLaws.subAt_one (Tx l) c i
  unfold Txt.rfind
  rcases StrLaws.last_spec (Tx l) (Tx [c]) with ⟨e, hn⟩ | ⟨i, e, hi, hk⟩
  · rw [e]
    refine .inl ⟨fun hm => ?_, rfl⟩
    obtain ⟨i, h⟩ := List.mem_iff_getElem?.mp hm
    exact hn i ((at_iff i).mpr h)
  · rw [e]
    have hi' := (at_iff i).mp hi
    have hlt : i < l.length := by
      rcases Nat.lt_or_ge i l.length with hl | hl
      · exact hl
      · rw [List.getElem?_eq_none hl] at hi'; cases hi'
    refine .inr ⟨l.take i, l.drop (i + 1), ?_, fun hm => ?_, by simp only [List.length_take]; congr 1; omega⟩
    · have e2 := List.drop_eq_getElem_cons hlt
      have e3 : l[i] = c := by rw [List.getElem?_eq_getElem hlt] at hi'; exact Option.some.inj hi'
      rw [← e3, ← e2, List.take_append_drop]
    · obtain ⟨k, h⟩ := List.mem_iff_getElem?.mp hm
      rw [List.getElem?_drop] at h
      exact hk (i + 1 + k) (by omega) ((at_iff _).mpr h)
/-- no dot, or the last one -/
theorem dots (l : List Nat) : 46 ∉ l ∨ ∃ a b, l = a ++ 46 :: b ∧ 46 ∉ b := by
  rcases rfind_one l 46 with ⟨h, _⟩ | ⟨a, b, h1, h2, _⟩
  · exact .inl h
  · exact .inr ⟨a, b, h1, h2⟩
theorem rfind_no {l : List Nat} {c : Nat} (h : c ∉ l) : Txt.rfind (Tx l) (Tx [c]) = -1 := by
  rcases rfind_one l c with ⟨_, e⟩ | ⟨a, b, e, _⟩
  · exact e
  · exact absurd (e ▸ List.mem_append_right a List.mem_cons_self) h
theorem rfind_at {a b : List Nat} {c : Nat} (h : c ∉ b) : Txt.rfind (Tx (a ++ c :: b)) (Tx [c]) = (a.length : Int) := by
  rcases rfind_one (a ++ c :: b) c with ⟨hn, _⟩ | ⟨a', b', e, h', e'⟩
  · exact absurd (List.mem_append_right a List.mem_cons_self) hn
  · rw [e', (last_uniq e h h').1]
theorem ext_no {l : List Nat} (h : 46 ∉ l) : extTail (Tx (97 :: l)) = Tx [] ∧ extRoot (Tx (97 :: l)) = Tx (97 :: l) := by
  have e : extD (Tx (97 :: l)) = -1 := by unfold extD; rw [dotT]; exact rfind_no (by simp; exact h)
  unfold extTail extRoot
  rw [e, if_neg (by decide), if_neg (by decide)]
  exact ⟨to_n _ 0 (by simp), rfl⟩
theorem ext_at {a b : List Nat} (h : 46 ∉ b) : extTail (Tx (97 :: (a ++ 46 :: b))) = Tx (46 :: b) ∧ extRoot (Tx (97 :: (a ++ 46 :: b))) = Tx (97 :: a) := by
  have e : extD (Tx (97 :: (a ++ 46 :: b))) = ((97 :: a).length : Int) := by unfold extD; rw [dotT]; exact rfind_at (a := 97 :: a) h
  unfold extTail extRoot
  have hp : 0 < (((97 :: a).length : Nat) : Int) := by simp only [List.length_cons]; omega
  rw [e, if_pos hp, if_pos hp, from_n _ _ (by simp), to_n _ _ (by simp)]
  have e2 : 97 :: (a ++ 46 :: b) = (97 :: a) ++ 46 :: b := rfl
  rw [e2, List.drop_left, List.take_left]
  exact ⟨rfl, rfl⟩
theorem contains_dot (l : List Nat) : Txt.contains (Tx l) (Str.ofString ".") = decide (46 ∈ l) := by
  rw [dotT]
  exact StrLaws.found_one (Tx l) 46
theorem endS_no {l : List Nat} (h : 46 ∉ l) : endS (Tx l) = Tx [] := by
  unfold endS
  rw [contains_dot, decide_eq_false h, nilT]
  rfl
theorem endS_at {a b : List Nat} (h : 46 ∉ b) : endS (Tx (a ++ 46 :: b)) = Tx (46 :: b) ∧ lastS (Tx (a ++ 46 :: b)) = Tx b := by
  have hj := StrLaws.join_split (Tx (a ++ 46 :: b)) (Tx [46])
  have hf := StrLaws.split_free (Tx (a ++ 46 :: b)) 46
  have hp := split_pos (Tx (a ++ 46 :: b)) (Tx [46])
  have key : lastS (Tx (a ++ 46 :: b)) = Tx b := by
    unfold lastS
    rw [dotT]
    change ∀ p ∈ Txt.split (Tx (a ++ 46 :: b)) (Tx [46]), _ at hf
    generalize Txt.split (Tx (a ++ 46 :: b)) (Tx [46]) = ps at hj hf hp
    rcases List.eq_nil_or_concat ps with rfl | ⟨init, z, rfl⟩
    · cases hp
    rw [List.concat_eq_append] at *
    have hz := hf z (List.mem_append_right _ List.mem_cons_self)
    have e : (-1 + (((init ++ [z]).length : Nat) : Int)).toNat = init.length := by simp only [List.length_append, List.length_singleton]; omega
    rw [e, List.getD_eq_getElem?_getD, List.getElem?_append_right (Nat.le_refl _), Nat.sub_self]
    show z = _
    rw [PyProof.Rows.FinIter.join_snoc] at hj
    rw [tx_eta z] at hj ⊢
    by_cases hi : init = []
    · rw [if_pos hi] at hj
      have e2 : z.cps.toList = a ++ 46 :: b := congrArg (fun x : Str => x.cps.toList) hj
      exact absurd (e2 ▸ List.mem_append_right a List.mem_cons_self) hz
    · rw [if_neg hi, tx_eta (Str.join (Tx [46]) init), tx_app, tx_app] at hj
      have e2 : (Str.join (Tx [46]) init).cps.toList ++ [46] ++ z.cps.toList = a ++ 46 :: b := congrArg (fun x : Str => x.cps.toList) hj
      rw [List.append_assoc] at e2
      rw [(last_uniq (show (Str.join (Tx [46]) init).cps.toList ++ 46 :: z.cps.toList = a ++ 46 :: b from e2) hz h).2]
  refine ⟨?_, key⟩
  unfold endS
  rw [contains_dot, decide_eq_true (List.mem_append_right a List.mem_cons_self), if_pos rfl, key, dotT, tx_app]
  rfl
/-- what follows the last dot is a number -/
noncomputable def dgb (b : List Nat) : Bool := !b.isEmpty && b.all Sre.isDigit
/-- a number's ending, by its signs -/
noncomputable def numL (l : List Nat) : Prop := ∃ i, i + 1 < l.length ∧ l[i]? = some 46 ∧ ∀ k c, i < k → l[k]? = some c → Sre.isDigit c = true
theorem numL_no {l : List Nat} (h : 46 ∉ l) : ¬ numL l := fun ⟨i, _, h2, _⟩ => h (List.mem_of_getElem? h2)
theorem numL_at {a b : List Nat} (h : 46 ∉ b) : numL (a ++ 46 :: b) ↔ dgb b = true := by
  unfold dgb
  rw [Bool.and_eq_true, Bool.not_eq_true', List.all_eq_true]
  constructor
  · rintro ⟨i, h1, h2, h3⟩
    have hia : i = a.length := by
      rcases Nat.lt_trichotomy i a.length with hl | hl | hl
      · have := h3 a.length 46 hl (by rw [List.getElem?_append_right (Nat.le_refl _), Nat.sub_self]; rfl)
        exact absurd this (by decide)
      · exact hl
      · rw [List.getElem?_append_right (by omega)] at h2
        obtain ⟨j, hj⟩ : ∃ j, i - a.length = j + 1 := ⟨i - a.length - 1, by omega⟩
        rw [hj, List.getElem?_cons_succ] at h2
        exact absurd (List.mem_of_getElem? h2) h
    subst hia
    refine ⟨?_, fun c hc => ?_⟩
    · cases b with
      | nil => simp at h1
      | cons => rfl
    · obtain ⟨j, hj⟩ := List.mem_iff_getElem?.mp hc
      refine h3 (a.length + 1 + j) c (by omega) ?_
      rw [List.getElem?_append_right (by omega), show a.length + 1 + j - a.length = j + 1 by omega, List.getElem?_cons_succ]
      exact hj
  · rintro ⟨h1, h2⟩
    refine ⟨a.length, ?_, ?_, fun k c hk hc => ?_⟩
    · cases b with
      | nil => cases h1
      | cons x xs => simp only [List.length_append, List.length_cons]; omega
    · rw [List.getElem?_append_right (Nat.le_refl _), Nat.sub_self]; rfl
    · rw [List.getElem?_append_right (by omega)] at hc
      obtain ⟨j, hj⟩ : ∃ j, k - a.length = j + 1 := ⟨k - a.length - 1, by omega⟩
      rw [hj, List.getElem?_cons_succ] at hc
      exact h2 c (List.mem_of_getElem? hc)
theorem digs_all (T : Array Nat) (n : Nat) : ∀ p, digs T n p = n ↔ ∀ k, k < n → Sre.isDigit (T.getD (p + k) 0) = true := by
  induction n with
  | zero => intro p; exact ⟨fun _ k hk => absurd hk (Nat.not_lt_zero k), fun _ => rfl⟩
  | succ n ih =>
    intro p
    show (if Sre.isDigit (T.getD p 0) then digs T n (p + 1) + 1 else 0) = n + 1 ↔ _
    by_cases hd : Sre.isDigit (T.getD p 0) = true
    · rw [if_pos hd]
      constructor
      · intro h k hk
        cases k with
        | zero => exact hd
        | succ k =>
          have := (ih (p + 1)).mp (by omega) k (by omega)
          rw [show p + 1 + k = p + (k + 1) by omega] at this
          exact this
      · intro h
        have := (ih (p + 1)).mpr (fun k hk => by
          have := h (k + 1) (by omega)
          rw [show p + 1 + k = p + (k + 1) by omega]
          exact this)
        omega
    · rw [if_neg hd]
      refine ⟨fun h => by omega, fun h => absurd (h 0 (by omega)) hd⟩
theorem getD_some {l : List Nat} {k : Nat} (h : k < l.length) : l[k]? = some (l.toArray.getD k 0) := by
  rw [Array.getD_eq_getD_getElem?, List.getElem?_toArray, List.getElem?_eq_getElem h]
  rfl
theorem good_iff (l : List Nat) (s : Nat) : good l.toArray s = true ↔ s + 1 < l.length ∧ l[s]? = some 46 ∧ ∀ k c, s < k → l[k]? = some c → Sre.isDigit c = true := by
  unfold good
  simp only [List.size_toArray, Bool.and_eq_true, decide_eq_true_eq, beq_iff_eq]
  constructor
  · rintro ⟨⟨⟨h1, h2⟩, h3⟩, h4⟩
    have h5 := (digs_all l.toArray (l.length - (s + 1)) (s + 1)).mp (by omega)
    refine ⟨by omega, by rw [getD_some h1, h2], fun k c hk hc => ?_⟩
    have hkl : k < l.length := by
      rcases Nat.lt_or_ge k l.length with hl | hl
      · exact hl
      · rw [List.getElem?_eq_none hl] at hc; cases hc
    have h6 := h5 (k - (s + 1)) (by omega)
    rw [show s + 1 + (k - (s + 1)) = k by omega] at h6
    rw [getD_some hkl] at hc
    rw [← Option.some.inj hc]
    exact h6
  · rintro ⟨h1, h2, h3⟩
    have h5 := (digs_all l.toArray (l.length - (s + 1)) (s + 1)).mpr (fun k hk => h3 (s + 1 + k) _ (by omega) (getD_some (by omega)))
    rw [getD_some (by omega)] at h2
    exact ⟨⟨⟨by omega, Option.some.inj h2⟩, by omega⟩, by omega⟩
theorem hit_iff (T : Array Nat) (n : Nat) : ∀ s, hit T n s = true ↔ ∃ i, s ≤ i ∧ i < s + n ∧ good T i = true := by
  induction n with
  | zero => intro s; exact ⟨fun h => (by cases h), fun ⟨i, h1, h2, _⟩ => by omega⟩
  | succ n ih =>
    intro s
    show (good T s || hit T n (s + 1)) = true ↔ _
    rw [Bool.or_eq_true, ih]
    constructor
    · rintro (h | ⟨i, h1, h2, h3⟩)
      · exact ⟨s, Nat.le_refl _, by omega, h⟩
      · exact ⟨i, by omega, by omega, h3⟩
    · rintro ⟨i, h1, h2, h3⟩
      by_cases e : i = s
      · exact .inl (e ▸ h3)
      · exact .inr ⟨i, by omega, by omega, h3⟩
theorem hit_num (l : List Nat) : hit l.toArray (l.toArray.size + 1) 0 = true ↔ numL l := by
  rw [hit_iff]
  constructor
  · rintro ⟨i, _, _, h⟩
    exact ⟨i, (good_iff l i).mp h⟩
  · rintro ⟨i, h⟩
    refine ⟨i, Nat.zero_le _, ?_, (good_iff l i).mpr h⟩
    rw [List.size_toArray]
    have := h.1
    omega
end Mine
end
section
open PySem PySem.W PyProof.Rows PySem.Spec PySem.Calls
set_option maxRecDepth 100000
namespace Mine
theorem some_lt {l : List Nat} {i c : Nat} (h : l[i]? = some c) : i < l.length := by
  rcases Nat.lt_or_ge i l.length with hl | hl
  · exact hl
  · rw [List.getElem?_eq_none hl] at h; cases h
theorem item_n {l : List Nat} {i c : Nat} (h : l[i]? = some c) : Txt.item (Tx l) (i : Int) = Tx [c] :=
  PyProof.Rows.item_meets (x := Tx l) (i := (i : Int)) (n := c) (by omega) (by
    show l.toArray[(i : Int).toNat]? = some c
    rw [Int.toNat_natCast, List.getElem?_toArray]
    exact h)
theorem tx_inj {l r : List Nat} : Tx l = Tx r ↔ l = r := ⟨fun h => congrArg (fun x : Str => x.cps.toList) h, fun h => h ▸ rfl⟩
theorem in_digs {c : Nat} : digs10.contains (Tx [c]) = Sre.isDigit c := by
  rw [Bool.eq_iff_iff, List.contains_iff_mem]
  unfold digs10 Sre.isDigit
  rw [List.mem_map, Bool.and_eq_true, decide_eq_true_eq, decide_eq_true_eq]
  constructor
  · rintro ⟨i, h1, h2⟩
    have e : [48 + i] = [c] := tx_inj.mp h2
    have := List.mem_range.mp h1
    cases e
    omega
  · rintro ⟨h1, h2⟩
    refine ⟨c - 48, List.mem_range.mpr (by omega), ?_⟩
    show Tx [48 + (c - 48)] = Tx [c]
    rw [show 48 + (c - 48) = c by omega]
theorem isd_dig (c : Nat) : isdC c = Sre.isDigit c := by
  have e : isdC c = decide (c ∈ (Str.ofString "0123456789").cps.toList) := StrLaws.found_one _ c
  rw [e, show (Str.ofString "0123456789").cps.toList = [48, 49, 50, 51, 52, 53, 54, 55, 56, 57] by decide +kernel, Bool.eq_iff_iff, decide_eq_true_eq]
  unfold Sre.isDigit
  rw [Bool.and_eq_true, decide_eq_true_eq, decide_eq_true_eq]
  simp only [List.mem_cons, List.not_mem_nil, or_false]
  omega
theorem fits_iff (k : Nat) (z : List Nat) : fitsB (figP k) (Tx z) = true ↔ z.length = k + 1 ∧ z[0]? = some 46 ∧ ∀ i c, 0 < i → z[i]? = some c → Sre.isDigit c = true := by
  have hlen : (figP k).length = k + 1 := by simp [figP]
  have h0 : ∀ c, z[0]? = some c → ((!pzF (figP k) (Tx z) 0) = true ↔ c = 46) := fun c hc => by
    unfold pzF
    rw [show (0 + ((0 : Nat) : Int)) = ((0 : Nat) : Int) from rfl, item_n hc]
    show (!(([Str.ofString "."].contains (Tx [c])) != true)) = true ↔ _
    rw [dotT, Bool.not_eq_true', bne_eq_false_iff_eq, List.contains_iff_mem, List.mem_singleton, tx_inj]
    simp
  have hs : ∀ i c, z.length = k + 1 → z[i + 1]? = some c → ((!pzF (figP k) (Tx z) (i + 1)) = true ↔ Sre.isDigit c = true) := fun i c hz hc => by
    unfold pzF
    have hi : i < k := by have := some_lt hc; omega
    have e : (figP k).getD (i + 1) (false, []) = (true, digs10) := by
      unfold figP
      rw [List.getD_cons_succ, List.getD_eq_getElem?_getD, List.getElem?_replicate, if_pos hi]
      rfl
    rw [e, Int.zero_add, item_n hc, in_digs]
    cases Sre.isDigit c <;> decide
  unfold fitsB
  rw [Bool.and_eq_true, decide_eq_true_eq, hlen, tx_len, List.all_eq_true]
  constructor
  · rintro ⟨h1, h2⟩
    refine ⟨h1.symm, ?_, fun i c hi hc => ?_⟩
    · have hz : z[0]? = some z[0] := List.getElem?_eq_getElem (by omega)
      rw [hz, (h0 _ hz).mp (h2 0 (List.mem_range.mpr (by omega)))]
    · obtain ⟨j, rfl⟩ : ∃ j, i = j + 1 := ⟨i - 1, by omega⟩
      exact (hs j c h1.symm hc).mp (h2 _ (List.mem_range.mpr (some_lt hc)))
  · rintro ⟨h1, h2, h3⟩
    refine ⟨h1.symm, fun i hi => ?_⟩
    have hi := List.mem_range.mp hi
    cases i with
    | zero => exact (h0 _ h2).mpr rfl
    | succ i =>
      have hz : z[i + 1]? = some z[i + 1] := List.getElem?_eq_getElem hi
      exact (hs i _ h1 hz).mpr (h3 _ _ (Nat.succ_pos i) hz)
theorem fits_nil (z : Str) : fitsB [] (Txt.slice z none (some ((([] : List (Bool × List Str)).length : Nat) : Int))) = true := by
  have e : Txt.slice z none (some ((([] : List (Bool × List Str)).length : Nat) : Int)) = Tx [] := by rw [tx_eta z]; exact to_n _ 0 (by simp)
  rw [e]
  rfl
theorem numR_iff (l : List Nat) (h7 : l.length ≤ 7) : numR (Tx l) = true ↔ numL l := by
  unfold numR figR
  rw [List.any_map, List.any_eq_true]
  have ht : ∀ j, takesR ([], some (figP (j + 1))) (Tx l) = true ↔ j + 2 ≤ l.length ∧ fitsB (figP (j + 1)) (Tx (l.drop (l.length - (j + 2)))) = true := fun j => by
    show takesB [] (figP (j + 1)) (Tx l) = true ↔ _
    unfold takesB
    have hlen : (figP (j + 1)).length = j + 2 := by simp [figP]
    rw [hlen, tx_len, fits_nil, Bool.true_and, Bool.and_eq_true, Bool.not_eq_true', decide_eq_false_iff_not]
    constructor
    · rintro ⟨h1, h2⟩
      have h1' : j + 2 ≤ l.length := by simp only [List.length_nil] at h1; omega
      rw [show ((l.length : Int) - ((j + 2 : Nat) : Int)) = ((l.length - (j + 2) : Nat) : Int) by omega, from_n _ _ (by omega)] at h2
      exact ⟨h1', h2⟩
    · rintro ⟨h1, h2⟩
      rw [show ((l.length : Int) - ((j + 2 : Nat) : Int)) = ((l.length - (j + 2) : Nat) : Int) by omega, from_n _ _ (by omega)]
      exact ⟨by simp only [List.length_nil]; omega, h2⟩
  constructor
  · rintro ⟨j, hj, h⟩
    obtain ⟨h1, h2⟩ := (ht j).mp h
    obtain ⟨_, h4, h5⟩ := (fits_iff _ _).mp h2
    refine ⟨l.length - (j + 2), by omega, by rw [List.getElem?_drop] at h4; exact h4, fun k c hk hc => h5 (k - (l.length - (j + 2))) c (by omega) ?_⟩
    rw [List.getElem?_drop, show l.length - (j + 2) + (k - (l.length - (j + 2))) = k by omega]
    exact hc
  · rintro ⟨i, h1, h2, h3⟩
    refine ⟨l.length - i - 2, List.mem_range.mpr (by omega), (ht _).mpr ⟨by omega, (fits_iff _ _).mpr ⟨by rw [List.length_drop]; omega, ?_, fun k c hk hc => ?_⟩⟩⟩
    · rw [List.getElem?_drop, show l.length - (l.length - i - 2 + 2) + 0 = i by omega]; exact h2
    · rw [List.getElem?_drop] at hc
      exact h3 _ c (by omega) hc
theorem lib_num {y : Str} (h : OneOk y) : lib y = !numR y := by
  obtain ⟨h7, _⟩ := h
  rw [tx_eta y] at h7 ⊢
  rw [tx_len] at h7
  show (!hit _ _ 0) = !numR _
  congr 1
  rw [Bool.eq_iff_iff, numR_iff _ h7]
  exact hit_num _
/-- neither empty nor with a dot at an end -/
noncomputable def okL (l : List Nat) : Prop := l ≠ [] ∧ l.head? ≠ some 46 ∧ l.getLast? ≠ some 46
noncomputable def headB (y : Str) : Bool := !(y == Str.ofString "") && !(Txt.item y 0 == Str.ofString ".") && !(Txt.item y (-1) == Str.ofString ".")
theorem head_ok (l : List Nat) : headB (Tx l) = true ↔ okL l := by
  unfold headB okL
  rw [dotT, nilT]
  simp only [Bool.and_eq_true, Bool.not_eq_true', beq_eq_false_iff_ne, ne_eq, tx_inj]
  rcases List.eq_nil_or_concat l with rfl | ⟨m, d, rfl⟩
  · simp
  rw [List.concat_eq_append]
  have hl : Txt.item (Tx (m ++ [d])) (-1) = Tx [d] := by
    rw [eq_of_beq (item_closes_neg (x := Tx (m ++ [d])) (i := -1) (j := (m.length : Int)) (by omega) (by rw [tx_len]; simp; omega) (by rw [tx_len]; simp; omega))]
    have : (m ++ [d])[m.length]? = some d := by simp
    rw [getD_some (by simp)] at this
    show Tx [_] = _
    rw [tx_inj]
    exact congrArg (fun x => [x]) (by rw [Int.toNat_natCast]; exact Option.some.inj this)
  have hh : ∃ c, (m ++ [d]).head? = some c ∧ (m ++ [d])[0]? = some c := by
    cases m with
    | nil => exact ⟨d, rfl, rfl⟩
    | cons x xs => exact ⟨x, rfl, rfl⟩
  obtain ⟨c, h1, h2⟩ := hh
  have h3 : Txt.item (Tx (m ++ [d])) 0 = Tx [c] := item_n (i := 0) h2
  rw [hl, h3, h1, tx_inj, tx_inj]
  simp
theorem fits_name (z : List Nat) : fitsB [(false, [Str.ofString "."])] (Tx z) = true ↔ ∃ c, z = [c] ∧ c ≠ 46 := by
  unfold fitsB
  rw [Bool.and_eq_true, decide_eq_true_eq, tx_len, List.all_eq_true]
  have h0 : ∀ c, z = [c] → ((!pzF [(false, [Str.ofString "."])] (Tx z) 0) = true ↔ c ≠ 46) := fun c hc => by
    subst hc
    unfold pzF
    rw [show (0 + ((0 : Nat) : Int)) = ((0 : Nat) : Int) from rfl, item_n (l := [c]) (i := 0) (c := c) rfl]
    show (!(([Str.ofString "."].contains (Tx [c])) != false)) = true ↔ _
    rw [dotT, Bool.not_eq_true', bne_eq_false_iff_eq, Bool.eq_false_iff, ne_eq, List.contains_iff_mem, List.mem_singleton, tx_inj]
    simp
  constructor
  · rintro ⟨h1, h2⟩
    obtain ⟨c, rfl⟩ := List.length_eq_one_iff.mp h1.symm
    exact ⟨c, rfl, (h0 c rfl).mp (h2 0 (by simp))⟩
  · rintro ⟨c, rfl, hc⟩
    refine ⟨rfl, fun i hi => ?_⟩
    have : i = 0 := by simpa using hi
    subst this
    exact (h0 c rfl).mpr hc
theorem namR_ok (l : List Nat) : namR (Tx l) = true ↔ okL l := by
  show (fitsB [(false, [Str.ofString "."])] (Tx l) || (takesB [(false, [Str.ofString "."])] [(false, [Str.ofString "."])] (Tx l) || false)) = true ↔ _
  rw [Bool.or_false, Bool.or_eq_true, fits_name]
  unfold takesB okL
  rw [tx_len, Bool.and_eq_true, Bool.and_eq_true, Bool.not_eq_true', decide_eq_false_iff_not]
  show _ ∨ (¬ l.length < 1 + 1 ∧ fitsB _ (Txt.slice (Tx l) none (some ((1 : Nat) : Int))) = true ∧ fitsB _ (Txt.slice (Tx l) (some ((l.length : Int) - ((1 : Nat) : Int))) none) = true) ↔ _
  rcases List.eq_nil_or_concat l with rfl | ⟨m, d, rfl⟩
  · simp
  rw [List.concat_eq_append]
  cases m with
  | nil =>
    simp
  | cons x xs =>
    rw [to_n _ _ (by simp), show (((x :: xs ++ [d]).length : Int) - ((1 : Nat) : Int)) = (((x :: xs).length : Nat) : Int) by simp, from_n _ _ (by simp), fits_name, fits_name, List.drop_left]
    have hg : (x :: (xs ++ [d])).getLast? = some d := by rw [← List.cons_append]; exact List.getLast?_concat ..
    simp [hg]
theorem hdn_num {y : Str} (h : OneOk y) : hdnB y = (!numR y && namR y) := by
  have e : hdnB y = (lib y && headB y) := by
    unfold hdnB headB
    rw [Bool.and_assoc, Bool.and_assoc, Bool.and_assoc]
  rw [e, lib_num h]
  congr 1
  rw [Bool.eq_iff_iff, tx_eta y, head_ok, namR_ok]
theorem fiv_num {y : Str} (h : OneOk y) : (decide (1 < (endS y).length) && (Txt.slice (endS y) (some 1) none).cps.toList.all isdC) = numR y := by
  obtain ⟨h7, _⟩ := h
  rw [tx_eta y] at h7 ⊢
  rw [tx_len] at h7
  generalize y.cps.toList = l at h7 ⊢
  rw [Bool.eq_iff_iff, numR_iff _ h7]
  rcases dots l with hn | ⟨a, b, rfl, hb⟩
  · rw [endS_no hn]
    refine ⟨fun h => ?_, fun h => absurd h (numL_no hn)⟩
    rw [tx_len] at h
    simp at h
  · rw [(endS_at hb).1, numL_at hb, tx_len]
    have e : Txt.slice (Tx (46 :: b)) (some 1) none = Tx b := from_n (46 :: b) 1 (by simp)
    rw [e, tx_list]
    unfold dgb
    rw [show b.all isdC = b.all Sre.isDigit by congr 1; funext c; exact isd_dig c]
    cases b <;> simp
theorem six_num {y : Str} (h : OneOk y) : hdnB y = ((!([Str.ofString "", Str.ofString "."].any fun x => x == Txt.slice y none (some 1))) && (endS y != Str.ofString ".") && (!numR y)) := by
  have e : hdnB y = (lib y && headB y) := by
    unfold hdnB headB
    rw [Bool.and_assoc, Bool.and_assoc, Bool.and_assoc]
  rw [e, lib_num h, Bool.and_comm]
  congr 1
  rw [tx_eta y, Bool.eq_iff_iff, head_ok]
  generalize y.cps.toList = l
  unfold okL
  rw [nilT, dotT]
  simp only [List.any_cons, List.any_nil, Bool.or_false, Bool.and_eq_true, Bool.not_eq_true', Bool.or_eq_false_iff, beq_eq_false_iff_ne, bne_iff_ne, ne_eq]
  have hs : ∀ c r, l = c :: r → Txt.slice (Tx l) none (some 1) = Tx [c] := fun c r e => by subst e; exact to_n (c :: r) 1 (by simp)
  have hE : endS (Tx l) = Tx [46] ↔ l.getLast? = some 46 := by
    rcases dots l with hn | ⟨a, b, rfl, hb⟩
    · rw [endS_no hn, tx_inj]
      refine ⟨fun h => (by cases h), fun h => absurd (List.mem_of_getLast? h) hn⟩
    · rw [(endS_at hb).1, tx_inj]
      rcases List.eq_nil_or_concat b with rfl | ⟨m, d, rfl⟩
      · simp
      · rw [List.concat_eq_append] at hb ⊢
        have hg : (a ++ 46 :: (m ++ [d])).getLast? = some d := by
          rw [show a ++ 46 :: (m ++ [d]) = (a ++ 46 :: m) ++ [d] by simp]
          exact List.getLast?_concat ..
        rw [hg]
        have hd : d ≠ 46 := fun e => hb (by simp [e])
        simp [hd]
  rw [hE]
  cases l with
  | nil =>
    have e0 : Txt.slice (Tx []) none (some 1) = Tx [] := by decide +kernel
    rw [e0]
    simp
  | cons c r =>
    rw [hs c r rfl, tx_inj, tx_inj]
    simp [eq_comm]
theorem tail_end (y : Str) : extTail (Str.ofString "a" ++ y) = endS y := by
  rw [tx_eta y, aT, tx_app]
  generalize y.cps.toList = l
  rcases dots l with hn | ⟨a, b, rfl, hb⟩
  · rw [endS_no hn]; exact (ext_no hn).1
  · rw [(endS_at hb).1]; exact (ext_at hb).1
theorem root_end (y : Str) : extRoot (Str.ofString "a" ++ y) = Str.ofString "a" ++ Txt.slice y none (some ((y.length : Int) - ((endS y).length : Int))) := by
  rw [tx_eta y, aT, tx_app]
  generalize y.cps.toList = l
  rcases dots l with hn | ⟨a, b, rfl, hb⟩
  · rw [endS_no hn, tx_len, tx_len, show ((l.length : Int) - (([] : List Nat).length : Int)) = ((l.length : Nat) : Int) by simp, to_n _ _ (Nat.le_refl _), List.take_length, tx_app]
    exact (ext_no hn).2
  · rw [(endS_at hb).1, tx_len, tx_len, show (((a ++ 46 :: b).length : Int) - ((46 :: b).length : Int)) = ((a.length : Nat) : Int) by simp, to_n _ _ (by simp), List.take_left, tx_app]
    exact (ext_at hb).2
theorem end_len {y : Str} (h : OneOk y) : (endS y).length ≤ 8 := by
  obtain ⟨h7, _⟩ := h
  rw [tx_eta y] at h7 ⊢
  rw [tx_len] at h7
  generalize y.cps.toList = l at h7 ⊢
  rcases dots l with hn | ⟨a, b, rfl, hb⟩
  · rw [endS_no hn]; decide
  · rw [(endS_at hb).1, tx_len]; simp at h7 ⊢; omega
theorem last_len {y : Str} (h : OneOk y) : ((Txt.split y (Str.ofString ".")).getD (-1 + ((Txt.split y (Str.ofString ".")).length : Int)).toNat Str.empty).length ≤ 7 := by
  obtain ⟨h7, _⟩ := h
  have hj := StrLaws.join_split y (Str.ofString ".")
  have hp := split_pos y (Str.ofString ".")
  generalize Txt.split y (Str.ofString ".") = ps at hj hp
  rcases List.eq_nil_or_concat ps with rfl | ⟨init, z, rfl⟩
  · cases hp
  rw [List.concat_eq_append] at *
  have e : (-1 + (((init ++ [z]).length : Nat) : Int)).toNat = init.length := by simp only [List.length_append, List.length_singleton]; omega
  rw [e, List.getD_eq_getElem?_getD, List.getElem?_append_right (Nat.le_refl _), Nat.sub_self]
  show z.length ≤ 7
  rw [PyProof.Rows.FinIter.join_snoc] at hj
  by_cases hi : init = []
  · rw [if_pos hi] at hj; rw [hj]; exact h7
  · rw [if_neg hi, tx_eta (Str.join _ init), tx_eta (Str.ofString "."), tx_eta z, tx_app, tx_app] at hj
    rw [← hj, tx_len] at h7
    show z.cps.size ≤ 7
    simp at h7
    omega
theorem a_size {y : Str} (h : OneOk y) : (Str.ofString "a" ++ y).cps.size ≤ 1000 := by
  obtain ⟨h7, _⟩ := h
  rw [tx_eta y] at h7 ⊢
  rw [tx_len] at h7
  rw [aT, tx_app]
  show (Tx _).length ≤ 1000
  have := Array.length_toList (xs := y.cps)
  rw [tx_len, List.length_append, List.length_singleton]; omega
theorem a_slash {y : Str} (h : OneOk y) : Txt.rfind (Str.ofString "a" ++ y) (Str.ofString "/") = -1 := by
  obtain ⟨_, hs⟩ := h
  rw [tx_eta y, aT, tx_app, slT]
  refine rfind_no fun hm => ?_
  rcases List.mem_cons.mp hm with e | hm
  · cases e
  · have := hs 47 hm
    simp [Sgn] at this
theorem a_first (y : Str) : (Txt.slice (Str.ofString "a" ++ y) (some 0) (some 1) != Str.ofString ".") = true := by
  rw [tx_eta y, aT, tx_app, dotT, eq_of_beq (slice_closes (x := Tx ([97] ++ y.cps.toList)) (i := 0) (j := 1) ⟨by omega, by omega, by rw [tx_list]; simp; omega⟩)]
  rw [bne_iff_ne, ne_eq]
  exact fun e => by cases tx_inj.mp (show Tx [97] = Tx [46] from e)
theorem a_dot (y : Str) : Txt.rfind (Str.ofString "a" ++ y) (Str.ofString ".") ≠ 0 := by
  rw [tx_eta y, aT, tx_app, dotT]
  rcases dots y.cps.toList with hn | ⟨a, b, e, hb⟩
  · rw [rfind_no (l := [97] ++ y.cps.toList) (fun hm => (List.mem_cons.mp hm).elim (fun e => by cases e) hn)]; decide
  · rw [e, show [97] ++ (a ++ 46 :: b) = (97 :: a) ++ 46 :: b from rfl, rfind_at hb]
    simp only [List.length_cons]
    omega
end Mine
end
section
open PySem PySem.W PyProof.Rows PySem.Spec PySem.Calls
set_option maxRecDepth 100000
namespace Mine
theorem lt_use {w : World} {p : Program} {loose : List Str} {mean : ExcName → Option Value} {mg mb : Str → Option Value} {news : List (Addr × Obj)} {l : Addr} {vs : List Value} {ns : List Int} (hI : IntsAre vs ns) (hlen : ns.length ≤ 63)
    {dp un : Nat} {gd : Option (List Code)} {cn : Str} {cs : Scope} {a : Addr} {ccd : Value} {cl : List (Str × Addr)} {outer : List Env} {A₀ : Around} {base h₀ : Heap} {L : Addr} {m : Str → Option Value} {s : Shared} {Q E : Value → Shared → Prop}
    (B : Below A₀ base outer h₀) (F : Fr h₀ L s.heap m) (X : (hd.heap_1 w.params).In h₀) (N : News h₀ L s.heap news) (T : Top p loose mean mg mb h₀) (hk : cs.kind = .function)
    (hd : dp + 3 < recursionLimit) (hu : un + 8 * 3 < cLine) (hl : h₀.IsList l vs.toArray)
    (ret : ∀ X t h' tk', Fr h₀ L h' m → News h₀ L h' news → Joined X → Q (.str X t) { s with heap := h', toks := tk' }) :
    wpAny (model PySem.Challenge.rw_ik0051_01.row.prog w) (ktrTop dp un gd cn cs L a ccd cl outer) (call (.ref 197) [.ref l]) Q E s :=
  lt_con w p loose mean mg mb news l vs ns hI hlen _ _ _ _ _ _ _ _ _ _ _ _ _ _ _ _ _ B F X N T hk hd hu hl ret
local macro_rules | `(tactic| k_updF) => `(tactic| first | (refine' UpdF.head (by assumption)) | (refine' UpdF.tail ?a ?b; (case a => k_ne); (case b => k_updF)))
theorem rows_LawAll : True := by
  k_with_none
  (k_with "compareOp NotEq ref ref" => (k_here; k_dflt (refine' ne_tup (by k_asm) (by exact List.mem_cons_of_mem _ List.mem_cons_self) (by exact List.mem_cons_self) (by ktr_units) (by assumption) (by assumption) ?_)))
  (k_with "call builtin:str.split" => (k_here; k_dflt (refine' splitK (by k_asm) (by k_asm) (by decide +kernel) (by (rw [sizeLine_eq]; omega)) ?_); intro D' vs' h' k' hS' F' N' l1'; (try k_lt l1')))
  (k_with "CutAt" => refine Hold.out ?_)
  (k_with "eval IfExp" => (k_here; (fail_if_success (with_reducible show wpAny _ _ _ (CutAt _ _ _ _ _ _) _ _)); refine Hold.out ?_))
  (k_with "eval BoolOp" => (k_here; (fail_if_success (with_reducible show wpAny _ _ _ (CutAt _ _ _ _ _ _) _ _)); refine Hold.out ?_))
  (k_with "ite" => (refine ite_isnot (by assumption) ?_))
  (k_with "call ref" => (k_here; (with_reducible show wpAny _ _ (call (Value.ref 189) _) _ _ _); k_dflt (refine' con_useN (by k_asm) (by k_asm) (by k_asm) (by k_asm) (by k_asm) (by first | exact rfl | assumption) (by ktr_room) (by ktr_units) (splitext_con _ _ _ _ _ _ _ _ _ (by assumption) (by assumption) (by assumption) (by assumption)) ?_); intro r' h' tk' tl' hR' F' N'; (obtain ⟨D', u1', u2', e1', e2'⟩ := hR'; subst e1'; subst e2'); (try simp only [List.nil_append, List.cons_append] at N'); (try dsimp only); (try k_fold)))
  (k_with "call ref" => (k_here; (with_reducible show wpAny _ _ (call (Value.ref 57) _) _ _ _); k_dflt (refine' con_useN (by k_asm) (by k_asm) (by k_asm) (by k_asm) (by k_asm) (by first | exact rfl | assumption) (by ktr_room) (by ktr_units) (hdn_con _ _ _ _ _ _ _ _ _ (by assumption) (by assumption)) ?_); intro r' h' tk' tl' hR' F' N'; (obtain ⟨e1', e2'⟩ := hR'; subst e1'; subst e2'); (try simp only [List.nil_append] at N'); (try dsimp only); (try k_fold)))
  (k_with "call ref" => (k_here; (with_reducible show wpAny _ _ (call (Value.ref 64) _) _ _ _); k_dflt (refine' con_useN (by k_asm) (by k_asm) (by k_asm) (by k_asm) (by k_asm) (by first | exact rfl | assumption) (by ktr_room) (by ktr_units) (liberal_con _ _ _ _ _ _ _ _ _ (by assumption) (by assumption)) ?_); intro r' h' tk' tl' hR' F' N'; (obtain ⟨e1', e2'⟩ := hR'; subst e1'; subst e2'); (try simp only [List.nil_append] at N'); (try dsimp only); (try k_fold)))
  (k_with "compareOp Eq ref ref" => (k_here; k_dflt (refine' eq_nilE ?_ (by k_asm) (by exact List.mem_cons_of_mem _ List.mem_cons_self) (by exact List.mem_cons_self) (by ktr_units) ?_; rotate_left; assumption)))
  (k_with "compareOp NotEq ref ref" => (k_here; k_dflt (refine' ne_nilE ?_ (by k_asm) (by exact List.mem_cons_of_mem _ List.mem_cons_self) (by exact List.mem_cons_self) (by ktr_units) ?_; rotate_left; assumption)))
  (k_with "call ref" => (k_here; (with_reducible show wpAny _ _ (call (Value.ref 221) _) _ _ _); k_dflt (refine' con_useN (by k_asm) (by k_asm) (by k_asm) (by k_asm) (by k_asm) (by first | exact rfl | assumption) (by ktr_room) (by ktr_units) (takes_con (by omega) (by exact ReadIn.mono (by assumption) (fun p hp => by (repeat (first | exact hp | refine List.mem_cons_of_mem _ ?_)); done))) ?_); intro r' h' tk' tl' hR' F' N'; (obtain ⟨e1', e2'⟩ := hR'; subst e1'; subst e2'); (try simp only [List.nil_append] at N'); (try dsimp only); (try k_fold)))
  (k_with "exec For Name Name cons nil" => (k_here; (rename Fr _ _ _ _ => lF'); (with_unfolding_all refine' For_turns lF' ?_; k_whole)))
  (k_with "TestEnd" => refine Hold.out ?_)
  (k_with "CompSrcT" => refine Hold.out ?_)
  (k_with "eval ListComp" => (k_here; (with_reducible show wpAny _ _ (eval (Expr.ListComp _ [⟨_, Expr.Name _ _, _, _⟩] _ _) _) _ _ _); k_dflt (refine LCt.ListComp_T (F₀ := by k_asm) (by with_unfolding_all rfl) (by decide) (by rfl) (by decide) (by rfl) ?_)))
  (k_with "eval ListComp" => ((with_reducible show wpAny _ _ (eval (Expr.ListComp _ [⟨_, Expr.Subscript _ _ _, _, _⟩] _ _) _) _ _ _); refine Hold.out ?_))
  (k_with "eval Name" => (k_here; k_dflt (refine' name_cell (by rfl) (by rfl) (by rfl) (by k_asm) (by (repeat (first | assumption | exact List.mem_cons_self | refine List.mem_cons_of_mem _ ?_)); done) (by assumption) ?_ (by decide))))
  (k_with "eval ListComp" => ((with_reducible show wpAny _ _ (eval (Expr.ListComp _ [_, _] _ _) _) _ _ _); refine Hold.out ?_))
  (k_with "ElEnd" => refine Hold.out ?_)
  (k_with "RgEnd" => refine Hold.out ?_)
  (k_with "subscriptTail Name Slice str ref" => (k_here; k_dflt (refine' sliceE_ss (s := ⟨_, _, _, _, _⟩) (by rfl) (by k_asm) (by k_asm) (by (rw [sizeLine_eq]; omega)) ?_); intro h' t' k' F' N'))
  (k_with "eval Name" => (k_here; k_dflt (refine' name_cell (by rfl) (by rfl) (by rfl) (by k_asm) (by (repeat (first | assumption | refine List.mem_cons_of_mem _ ?_)); done) (by assumption) ?_ (by decide))))
  (k_with "call ref" => (k_here; (with_reducible show wpAny _ _ (call (Value.ref 209) _) _ _ _); k_dflt (refine' conG_useN (by k_asm) (by k_asm) (by k_asm) (by k_asm) (by k_asm) (by first | exact rfl | assumption) (by assumption) (by ktr_room) (by ktr_units) (rdk_con _ _ _ _ _ _ _ _ _ _ _ (by omega) (FigOk.at_ (by assumption)) (FigOk.turn (by assumption))) ?_); intro r' s' tl' hR' ho' G' F' N'; (obtain ⟨hR1', hR2'⟩ := hR'); (try dsimp only); (try k_fold)))
  (k_with "call ref" => (k_here; (with_reducible show wpAny _ _ (call (Value.ref 76) _) _ _ _); k_dflt (refine' conT_useN (by exact news_rot (by k_asm)) (by k_asm) (by k_asm) (by k_asm) (by k_asm) (by first | exact rfl | assumption) (by assumption) (by ktr_room) (by ktr_units) (trk_con _ _ _ _ _ _ _ _ _ (by assumption) (by exact rot90 (by assumption) (by assumption)) _ _ ?_ ?_ (by exact FigOk.len (by assumption)) (by exact FigOk.p0 (by assumption)) (by exact FigOk.p1 (by assumption)) (by exact FigOk.digs (by assumption))) ?_; (omega); (omega)); intro r' s' tl' ps' hR' ho' G' ht' F' N'; (obtain ⟨t', e1', e2'⟩ := hR'; subst e1'; subst e2'); (try simp only [List.nil_append, List.cons_append] at N'); (try dsimp only); (try k_fold)))
  (k_with "EltV" => refine Hold.out ?_)
  (k_with "call ref" => (k_here; (with_reducible show wpAny _ _ (call (Value.ref 209) _) _ _ _); k_dflt (refine' con_useN (by k_asm) (by k_asm) (by k_asm) (by k_asm) (by k_asm) (by first | exact rfl | assumption) (by ktr_room) (by ktr_units) (rd2_con _ _ _ _ _ _ _ _) ?_); intro r' h' tk' tl' hR' F' N'; (obtain ⟨hR1', hR2'⟩ := hR'); (try dsimp only); (try k_fold)))
  (k_with "call ref" => (k_here; (with_reducible show wpAny _ _ (call (Value.ref 209) _) _ _ _); k_dflt (refine' con_useN (by k_asm) (by k_asm) (by k_asm) (by k_asm) (by k_asm) (by first | exact rfl | assumption) (by ktr_room) (by ktr_units) (rd1_con _ _ _ _ _ _ _ _) ?_); intro r' h' tk' tl' hR' F' N'; (obtain ⟨hR1', hR2'⟩ := hR'); (try dsimp only); (try k_fold)))
  (k_with "call ref" => (k_here; (with_reducible show wpAny _ _ (call (Value.ref 76) _) _ _ _); k_dflt (refine' conT_useN (by exact news_rot (by k_asm)) (by k_asm) (by k_asm) (by k_asm) (by k_asm) (by first | exact rfl | assumption) (by assumption) (by ktr_room) (by ktr_units) (tr2_con _ _ _ _ _ _ _ _ _ (by assumption) (by exact rot90 (by assumption) (by assumption))) ?_); intro r' s' tl' ps' hR' ho' G' ht' F' N'; (obtain ⟨t', e1', e2'⟩ := hR'; subst e1'; subst e2'); (try simp only [List.nil_append, List.cons_append] at N'); (try dsimp only); (try k_fold)))
  (k_with "call ref" => (k_here; (with_reducible show wpAny _ _ (call (Value.ref 76) _) _ _ _); k_dflt (refine' conT_useN (by exact news_rot (by k_asm)) (by k_asm) (by k_asm) (by k_asm) (by k_asm) (by first | exact rfl | assumption) (by assumption) (by ktr_room) (by ktr_units) (tr1_con _ _ _ _ _ _ _ _ _ (by assumption) (by exact rot90 (by assumption) (by assumption))) ?_); intro r' s' tl' ps' hR' ho' G' ht' F' N'; (obtain ⟨t', e1', e2'⟩ := hR'; subst e1'; subst e2'); (try simp only [List.nil_append, List.cons_append] at N'); (try dsimp only); (try k_fold)))
  (k_with "pyIter ref" => refine Hold.out ?_)
  (k_with "exec Assign cons ListComp" => (k_here; k_dflt (refine assign_comp_V (by k_asm) (by rfl) (by with_unfolding_all rfl) (by with_unfolding_all rfl) (by decide) (by rfl) (by decide) (by rfl) (by rfl) (by rfl) ?_)))
  (k_with "call ref" => (k_here; (with_reducible show wpAny _ _ (call (Value.ref 197) _) _ _ _); k_dflt (refine' lt_use (by assumption) (by omega) (by k_asm) (by k_asm) (by k_asm) (by k_asm) (by k_asm) (by first | exact rfl | assumption) (by ktr_room) (by ktr_units) (by k_asm) ?_); intro X' t' h' tk' F' N' hJ'))
  (k_with "eval Constant int" => (refine m_int ?_))
  (k_with "eval Constant str" => (refine m_str ?_))
  (k_with "binaryOp Add int int" => (refine m_add ?_))
  (k_with "binaryOp Sub int int" => (refine m_sub ?_))
  (k_with "inplaceOp Add int int" => (refine m_iadd ?_))
  (k_with "unaryOp USub int" => (refine m_neg ?_))
  (k_with "execs nil" => (k_here; (try dsimp only); refine wpAny_execs_nil ?_))
  (k_with "execs cons" => (k_here; (try dsimp only); (try (refine gen_tok ?_; intro _)); refine execs_let ?_; intro _))
  exact True.intro
theorem lawh.tw10011864695075777789 : True := trivial
theorem lawh.tw10040164235508822609 : True := trivial
theorem lawh.tw10059451501523590319 : True := trivial
theorem lawh.tw1006404278964603073 : True := trivial
theorem lawh.tw10099936396843989530 : True := trivial
theorem lawh.tw10175616886192114925 : True := trivial
theorem lawh.tw10278820949808200613 : True := trivial
theorem lawh.tw10299741622040427968 : True := trivial
theorem lawh.tw10357240771981882926 : True := trivial
theorem lawh.tw10422411693501070312 : True := trivial
theorem lawh.tw10444488181779937289 : True := trivial
theorem lawh.tw10477453035876428712 : True := trivial
theorem lawh.tw10478474926685820214 : True := trivial
theorem lawh.tw10478678690424847977 : True := trivial
theorem lawh.tw10485759435211359806 : True := trivial
theorem lawh.tw10494426255281510001 : True := trivial
theorem lawh.tw10541639095004066536 : True := trivial
theorem lawh.tw10582176977862874144 : True := trivial
theorem lawh.tw1059641291645661307 : True := trivial
theorem lawh.tw10654950477558487814 : True := trivial
theorem lawh.tw10783294520744195676 : True := trivial
theorem lawh.tw10801173465823671679 : True := trivial
theorem lawh.tw10829194562274426254 : True := trivial
theorem lawh.tw1085354104348878075 : True := trivial
theorem lawh.tw10889153541349643155 : True := trivial
theorem lawh.tw10912648403772571663 : True := trivial
theorem lawh.tw10957171326906060748 : True := trivial
theorem lawh.tw10966664063886262170 : True := trivial
theorem lawh.tw11020425013606396368 : True := trivial
theorem lawh.tw11029801158841214024 : True := trivial
theorem lawh.tw11085943677579179154 : True := trivial
theorem lawh.tw11106608964786970331 : True := trivial
theorem lawh.tw11354252462208724150 : True := trivial
theorem lawh.tw11421355516574683802 : True := trivial
theorem lawh.tw11439815822258409411 : True := trivial
theorem lawh.tw11483065439364564085 : True := trivial
theorem lawh.tw11697642938979841349 : True := trivial
theorem lawh.tw11706943277879595496 : True := trivial
theorem lawh.tw11709690068979847743 : True := trivial
theorem lawh.tw11757226562399357000 : True := trivial
theorem lawh.tw11820497463975735570 : True := trivial
theorem lawh.tw11821425565652776380 : True := trivial
theorem lawh.tw11834468204994262669 : True := trivial
theorem lawh.tw1186594679707400158 : True := trivial
theorem lawh.tw11937729147862050897 : True := trivial
theorem lawh.tw11961114573446942132 : True := trivial
theorem lawh.tw12034577664037783417 : True := trivial
theorem lawh.tw12040620928538426038 : True := trivial
theorem lawh.tw12072298473516439533 : True := trivial
theorem lawh.tw12124769796907419988 : True := trivial
theorem lawh.tw12167717606489719223 : True := trivial
theorem lawh.tw12212981112636624384 : True := trivial
theorem lawh.tw12429241082207684243 : True := trivial
theorem lawh.tw12438544074445993121 : True := trivial
theorem lawh.tw12479189849640986506 : True := trivial
theorem lawh.tw12551105526298066702 : True := trivial
theorem lawh.tw12699588788516480486 : True := trivial
theorem lawh.tw12755726318032126719 : True := trivial
theorem lawh.tw12766509526782783192 : True := trivial
theorem lawh.tw13034531815671659996 : True := trivial
theorem lawh.tw1303678843261208762 : True := trivial
theorem lawh.tw13084801465478810299 : True := trivial
theorem lawh.tw1309791278391795709 : True := trivial
theorem lawh.tw13102044115376702128 : True := trivial
theorem lawh.tw13129149156094624315 : True := trivial
theorem lawh.tw1331747616904757444 : True := trivial
theorem lawh.tw13346050969316796118 : True := trivial
theorem lawh.tw13360597805348761570 : True := trivial
theorem lawh.tw13380370846463769394 : True := trivial
theorem lawh.tw13395528739726458489 : True := trivial
theorem lawh.tw13433181545299915382 : True := trivial
theorem lawh.tw13439608076178400765 : True := trivial
theorem lawh.tw13454502178208832824 : True := trivial
theorem lawh.tw134848834357783150 : True := trivial
theorem lawh.tw13669870503791626865 : True := trivial
theorem lawh.tw13754121904532613758 : True := trivial
theorem lawh.tw1392117373912392475 : True := trivial
theorem lawh.tw1405786449693774207 : True := trivial
theorem lawh.tw1418831020710213370 : True := trivial
theorem lawh.tw14227059550702040679 : True := trivial
theorem lawh.tw14411043506506957754 : True := trivial
theorem lawh.tw14415482783741027815 : True := trivial
theorem lawh.tw14512256748421597028 : True := trivial
theorem lawh.tw14660765667784245253 : True := trivial
theorem lawh.tw14692500525181647104 : True := trivial
theorem lawh.tw14726882923267826777 : True := trivial
theorem lawh.tw14772936234500843190 : True := trivial
theorem lawh.tw14795375910743170487 : True := trivial
theorem lawh.tw14804195804429829417 : True := trivial
theorem lawh.tw14846045300096172836 : True := trivial
theorem lawh.tw1485039496260239998 : True := trivial
theorem lawh.tw1498500434262883882 : True := trivial
theorem lawh.tw151230813869012267 : True := trivial
theorem lawh.tw151911459806692381 : True := trivial
theorem lawh.tw15227033566151817997 : True := trivial
theorem lawh.tw15324475522478908882 : True := trivial
theorem lawh.tw15481462153522841452 : True := trivial
theorem lawh.tw15484039526963217585 : True := trivial
theorem lawh.tw15503062776067768143 : True := trivial
theorem lawh.tw15504852129301855452 : True := trivial
theorem lawh.tw15510150817738714989 : True := trivial
theorem lawh.tw15552119022149156092 : True := trivial
theorem lawh.tw15568905187446520288 : True := trivial
theorem lawh.tw15584748885077039492 : True := trivial
theorem lawh.tw15602621395278210348 : True := trivial
theorem lawh.tw15635636341317240619 : True := trivial
theorem lawh.tw15656485772494769871 : True := trivial
theorem lawh.tw15663808954411881270 : True := trivial
theorem lawh.tw15677925680883290174 : True := trivial
theorem lawh.tw15766506834010201334 : True := trivial
theorem lawh.tw15802675881473974265 : True := trivial
theorem lawh.tw15805773411484950039 : True := trivial
theorem lawh.tw15832814764812195997 : True := trivial
theorem lawh.tw15877447493307742402 : True := trivial
theorem lawh.tw15918232324757686864 : True := trivial
theorem lawh.tw15988774490956885193 : True := trivial
theorem lawh.tw16073465339208522496 : True := trivial
theorem lawh.tw16086195005995366849 : True := trivial
theorem lawh.tw16308180014432459741 : True := trivial
theorem lawh.tw16316502911412482593 : True := trivial
theorem lawh.tw16366480839579113629 : True := trivial
theorem lawh.tw16394380085992004945 : True := trivial
theorem lawh.tw16413658869108446764 : True := trivial
theorem lawh.tw16434836994993831104 : True := trivial
theorem lawh.tw16454507974001115894 : True := trivial
theorem lawh.tw16473056396255381860 : True := trivial
theorem lawh.tw16515252673817475890 : True := trivial
theorem lawh.tw16572720516827215404 : True := trivial
theorem lawh.tw16610661005029179298 : True := trivial
theorem lawh.tw16629301149077045141 : True := trivial
theorem lawh.tw16633411119986885411 : True := trivial
theorem lawh.tw16644144191410707259 : True := trivial
theorem lawh.tw16665307575213642789 : True := trivial
theorem lawh.tw16747683998618518807 : True := trivial
theorem lawh.tw1676693557902880808 : True := trivial
theorem lawh.tw16831445028332699743 : True := trivial
theorem lawh.tw16861428350700685305 : True := trivial
theorem lawh.tw16862587575452875359 : True := trivial
theorem lawh.tw1696266052401514704 : True := trivial
theorem lawh.tw17026675414662920131 : True := trivial
theorem lawh.tw17070720195843066253 : True := trivial
theorem lawh.tw17100575281936920454 : True := trivial
theorem lawh.tw17120734369046983802 : True := trivial
theorem lawh.tw17123432258302137851 : True := trivial
theorem lawh.tw17311992178207867932 : True := trivial
theorem lawh.tw17317142923614503569 : True := trivial
theorem lawh.tw17355615547261927966 : True := trivial
theorem lawh.tw17530185918930445339 : True := trivial
theorem lawh.tw17530691818230766803 : True := trivial
theorem lawh.tw17537845277260138460 : True := trivial
theorem lawh.tw17555509625473458997 : True := trivial
theorem lawh.tw17592002299605474564 : True := trivial
theorem lawh.tw17655569237202183865 : True := trivial
theorem lawh.tw17720702070854145426 : True := trivial
theorem lawh.tw17773910318898171502 : True := trivial
theorem lawh.tw1786379243437011230 : True := trivial
theorem lawh.tw17869771176834202142 : True := trivial
theorem lawh.tw17917788326630949910 : True := trivial
theorem lawh.tw17918202695796009756 : True := trivial
theorem lawh.tw17992299764980327495 : True := trivial
theorem lawh.tw18057023896758142611 : True := trivial
theorem lawh.tw18076690273042820226 : True := trivial
theorem lawh.tw18102282974165475458 : True := trivial
theorem lawh.tw18179615814039915282 : True := trivial
theorem lawh.tw1833046014137638524 : True := trivial
theorem lawh.tw1836647844845876322 : True := trivial
theorem lawh.tw18415445060031054482 : True := trivial
theorem lawh.tw1862146764520568874 : True := trivial
theorem lawh.tw1863424955935204161 : True := trivial
theorem lawh.tw1940530003321050802 : True := trivial
theorem lawh.tw1966695845542409785 : True := trivial
theorem lawh.tw1967669734462991802 : True := trivial
theorem lawh.tw2020157703352391848 : True := trivial
theorem lawh.tw2043799884116854146 : True := trivial
theorem lawh.tw2045418023749531687 : True := trivial
theorem lawh.tw2103097075808897219 : True := trivial
theorem lawh.tw210376582962911776 : True := trivial
theorem lawh.tw2132258595910936026 : True := trivial
theorem lawh.tw2367046022847942182 : True := trivial
theorem lawh.tw2405434116827914585 : True := trivial
theorem lawh.tw241239647443823833 : True := trivial
theorem lawh.tw2480663581780807207 : True := trivial
theorem lawh.tw2512388291497804836 : True := trivial
theorem lawh.tw25207822496007374 : True := trivial
theorem lawh.tw2532926221759481057 : True := trivial
theorem lawh.tw2685423442933068776 : True := trivial
theorem lawh.tw2850600744762375291 : True := trivial
theorem lawh.tw291903644482153036 : True := trivial
theorem lawh.tw2926289971080310427 : True := trivial
theorem lawh.tw2947733031610699256 : True := trivial
theorem lawh.tw2997904593617641755 : True := trivial
theorem lawh.tw2999515546607632776 : True := trivial
theorem lawh.tw3113003283994380068 : True := trivial
theorem lawh.tw3160643380256580972 : True := trivial
theorem lawh.tw3180259922088923001 : True := trivial
theorem lawh.tw318232243528711180 : True := trivial
theorem lawh.tw31943511890640356 : True := trivial
theorem lawh.tw333316197528175833 : True := trivial
theorem lawh.tw3373896103492118091 : True := trivial
theorem lawh.tw3379500643631288100 : True := trivial
theorem lawh.tw3393253568124395678 : True := trivial
theorem lawh.tw3404682704363407057 : True := trivial
theorem lawh.tw3471540477022218944 : True := trivial
theorem lawh.tw3474984562307240719 : True := trivial
theorem lawh.tw3526746571948019211 : True := trivial
theorem lawh.tw3527150646815126960 : True := trivial
theorem lawh.tw3536973451653070535 : True := trivial
theorem lawh.tw3569249392569181715 : True := trivial
theorem lawh.tw3584699195830693364 : True := trivial
theorem lawh.tw3590048371514901509 : True := trivial
theorem lawh.tw3842624440631482478 : True := trivial
theorem lawh.tw3856417471770007827 : True := trivial
theorem lawh.tw3881252178767638773 : True := trivial
theorem lawh.tw3914038945072684246 : True := trivial
theorem lawh.tw3940537421787949931 : True := trivial
theorem lawh.tw3947992587425782600 : True := trivial
theorem lawh.tw3967936736136418843 : True := trivial
theorem lawh.tw408615347891738778 : True := trivial
theorem lawh.tw4104265700706978393 : True := trivial
theorem lawh.tw421513630460080619 : True := trivial
theorem lawh.tw4284639582374187499 : True := trivial
theorem lawh.tw4351889640140963082 : True := trivial
theorem lawh.tw4611609219975157737 : True := trivial
theorem lawh.tw4717112262294112306 : True := trivial
theorem lawh.tw4746680737959108679 : True := trivial
theorem lawh.tw4753250775587536524 : True := trivial
theorem lawh.tw4821461689321854370 : True := trivial
theorem lawh.tw4832784745930793297 : True := trivial
theorem lawh.tw486787057914984789 : True := trivial
theorem lawh.tw4879525467832276483 : True := trivial
theorem lawh.tw493855119458019379 : True := trivial
theorem lawh.tw4952618483182909308 : True := trivial
theorem lawh.tw5004115170029780783 : True := trivial
theorem lawh.tw5114576545577911994 : True := trivial
theorem lawh.tw5120662966570889623 : True := trivial
theorem lawh.tw5141265021288258835 : True := trivial
theorem lawh.tw5143122006244980645 : True := trivial
theorem lawh.tw5181553773967984112 : True := trivial
theorem lawh.tw5302753874463180551 : True := trivial
theorem lawh.tw5322741997776264981 : True := trivial
theorem lawh.tw5329161603354814285 : True := trivial
theorem lawh.tw5389712580380159021 : True := trivial
theorem lawh.tw539847172826776469 : True := trivial
theorem lawh.tw5518793621241463888 : True := trivial
theorem lawh.tw5522937397525184603 : True := trivial
theorem lawh.tw5542562883384066878 : True := trivial
theorem lawh.tw5596302665151214798 : True := trivial
theorem lawh.tw564262285133968925 : True := trivial
theorem lawh.tw5709372488880752126 : True := trivial
theorem lawh.tw5869330317035951170 : True := trivial
theorem lawh.tw5929289868837468016 : True := trivial
theorem lawh.tw5929612827873019124 : True := trivial
theorem lawh.tw5957003978825583723 : True := trivial
theorem lawh.tw6016361774139815376 : True := trivial
theorem lawh.tw6134711608038008876 : True := trivial
theorem lawh.tw627974429879498050 : True := trivial
theorem lawh.tw6289482675612671896 : True := trivial
theorem lawh.tw6361184197148154023 : True := trivial
theorem lawh.tw6422676261589414319 : True := trivial
theorem lawh.tw6480391998108713921 : True := trivial
theorem lawh.tw6548327013379902782 : True := trivial
theorem lawh.tw6718393370248747046 : True := trivial
theorem lawh.tw6723906838915289505 : True := trivial
theorem lawh.tw6778049969309670444 : True := trivial
theorem lawh.tw6849796180645158035 : True := trivial
theorem lawh.tw6877574165012461171 : True := trivial
theorem lawh.tw6884906507527039321 : True := trivial
theorem lawh.tw6916143704514025144 : True := trivial
theorem lawh.tw6919140172936462642 : True := trivial
theorem lawh.tw7232214251317959790 : True := trivial
theorem lawh.tw7258786976840286896 : True := trivial
theorem lawh.tw7281461797874347452 : True := trivial
theorem lawh.tw7288778308208067720 : True := trivial
theorem lawh.tw7301702662715582012 : True := trivial
theorem lawh.tw7356190853356870086 : True := trivial
theorem lawh.tw7428665454564562265 : True := trivial
theorem lawh.tw7460221892163067456 : True := trivial
theorem lawh.tw7538065416316844475 : True := trivial
theorem lawh.tw7685458407098870454 : True := trivial
theorem lawh.tw7686855727706698356 : True := trivial
theorem lawh.tw7775159798926382719 : True := trivial
theorem lawh.tw78197484062761961 : True := trivial
theorem lawh.tw7828161524684581207 : True := trivial
theorem lawh.tw7874767289455731389 : True := trivial
theorem lawh.tw7912392908190410190 : True := trivial
theorem lawh.tw7951342116347573185 : True := trivial
theorem lawh.tw8210415841162991538 : True := trivial
theorem lawh.tw8223409637836605902 : True := trivial
theorem lawh.tw8301219204895162308 : True := trivial
theorem lawh.tw8333027404536023193 : True := trivial
theorem lawh.tw8380261670206671672 : True := trivial
theorem lawh.tw842485019443458202 : True := trivial
theorem lawh.tw846190054096522119 : True := trivial
theorem lawh.tw8606964128056096647 : True := trivial
theorem lawh.tw8681156352018312848 : True := trivial
theorem lawh.tw8779388536848260114 : True := trivial
theorem lawh.tw878807201434902242 : True := trivial
theorem lawh.tw8789063310482522879 : True := trivial
theorem lawh.tw8859326328912886451 : True := trivial
theorem lawh.tw8937458013978733027 : True := trivial
theorem lawh.tw8954750984679849128 : True := trivial
theorem lawh.tw8964212128133411240 : True := trivial
theorem lawh.tw896920358801738092 : True := trivial
theorem lawh.tw9040000247453717280 : True := trivial
theorem lawh.tw9078597894785620038 : True := trivial
theorem lawh.tw913116216202504895 : True := trivial
theorem lawh.tw9131478081816606039 : True := trivial
theorem lawh.tw9179274381749958086 : True := trivial
theorem lawh.tw9235244862674323276 : True := trivial
theorem lawh.tw9265869247715323804 : True := trivial
theorem lawh.tw9287048466514274641 : True := trivial
theorem lawh.tw9297926366290601609 : True := trivial
theorem lawh.tw9529352118019911797 : True := trivial
theorem lawh.tw9532189659741143233 : True := trivial
theorem lawh.tw9534657110134261647 : True := trivial
theorem lawh.tw9539461675086413331 : True := trivial
theorem lawh.tw9540791745732842105 : True := trivial
theorem lawh.tw9671619591069117918 : True := trivial
theorem lawh.tw9675380571304091622 : True := trivial
theorem lawh.tw9690490353168629847 : True := trivial
theorem lawh.tw9717109908379417677 : True := trivial
theorem lawh.tw9768483598676223675 : True := trivial
theorem lawh.tw9811153704226851509 : True := trivial
theorem lawh.tw9864173952644632805 : True := trivial
theorem lawh.tw9890371424608633163 : True := trivial
theorem lawh.tw9898385224087934807 : True := trivial
theorem lawh.tw9983601267268751606 : True := trivial
set_option Elab.async true in
set_option maxHeartbeats 8000000 in
theorem lawh : PySem.Challenge.rw_ik0051_01.Holds := by
  w_on; o_law; k_head; (case hw => w_witness2)
  k_fill
  intro w s₀ s₁ mg mb G Y fa o pm cd doc dV kV ho hdd hcd hD hmg hg args vals as hpre hlay hrd hwl hlo
  have KX := km_in_of Y
  km_tabs Y
  have X := (Ground.X G).1
  have V := (Ground.X G).2
  refine Ground.open G ?_
  intro T B D TE TW
  try (refine guard_noD D (by decide +kernel) ?_; clear D)
  km_lay T hmg ho hdd cd
  clear hmg
  wrow_args hpre hlay hrd hwl hlo
  first | refine callC_kw (enter_call ?_) | refine enter_call ?_
  w_top on
  refine' endT_post hT9 (fun _ => rfl) ?q_hp ?_
  case q_hp => first | wrow_post | with_unfolding_all rfl
  w_call any ho hdd hcd hD T F
  clear hdd
  kn_ghosts F T
  k_drop
  try k_fold
  have X9 : (hd.heap_1 w.params).In (ghostOf s₁.heap [(94, 90)]) := by
    rename Frag.In _ (ghostOf _ _) => KX8
    exact KX8
  k_steps
  refine Hold.mk ?_
  rename News _ _ _ _ => lN'
  refine src_tup (k := 0) (vs := [.str _ _, .str _ _]) (by rfl) (by k_asm) (news_last lN') ?q_G (.tail _ (.head _)) rfl rfl ?q_sz (RdsJ [(_, _), (_, _), (_, _)] (fun i => namesR.take i)) ⟨#[], [], rfl, trivial, ?q_h90, Younger.nil, ReadsAre.nil⟩ ?q_hJm ?q_turn ?q_done
  case q_G => exact AllBare.of_eq (by assumption)
  case q_sz => rw [sizeLine_eq]; simp
  case q_h90 =>
    intro p hp
    have hp2 : p ∈ [(_, _), (_, _), (_, _)] := hp
    rcases List.mem_cons.mp hp2 with rfl | hp2
    · show (_ : Nat) ≠ _; omega
    rcases List.mem_cons.mp hp2 with rfl | hp2
    · show (_ : Nat) ≠ _; omega
    rw [List.mem_singleton.mp hp2]
    show (_ : Nat) ≠ _; omega
  case q_hJm =>
    rintro i ys nw ⟨ps, tl, rfl, _⟩
    exact .tail _ (List.mem_append_right _ (.head _))
  case q_turn =>
    rintro i ys nw v I C D oI oC m' s₃ E' hv ⟨ps, tlp, rfl, ht, h90, hb, hR⟩ ho hg hC hvx F N off
    have hv2 : i = 0 ∧ (∃ t, v = .str (Str.ofString "[!.]") t) ∨ i = 1 ∧ ∃ t, v = .str (Str.ofString "[!.]*[!.]") t := by
      match i, hv with
      | 0, hv => cases hv; exact .inl ⟨rfl, _, rfl⟩
      | 1, hv => cases hv; exact .inr ⟨rfl, _, rfl⟩
      | (i + 2), hv => simp at hv
    rcases hv2 with ⟨rfl, t, rfl⟩ | ⟨rfl, t, rfl⟩
    · k_steps
      refine Hold.mk ?_
      exact rds_end (Eq.trans rfl (by assumption)) (by assumption) (by k_asm) (by k_asm) (by assumption) off h90 hb hR (by assumption) (by assumption) rfl
    · k_steps
      refine Hold.mk ?_
      exact rds_end (Eq.trans rfl (by assumption)) (by assumption) (by k_asm) (by k_asm) (by assumption) off h90 hb hR (by assumption) (by assumption) rfl
  case q_done =>
    rintro s₃ D ys nw ho hg ⟨ps, tl, rfl, ht, h90, hy, hR⟩ h k F N off
    clear lN'
    replace ho : s₃.os = s₁.os := ho
    k_steps
    refine Hold.mk ?_
    rename News _ _ _ _ => lN'
    refine src_range (n := 6) (by rfl) (by k_asm) (news_90 lN') (by assumption) (by assumption) ?q_small ?q_lsize ?q_sz (RdsJ (_ :: (_ ++ [(_, _), (_, _), (_, _)])) figR) ⟨_, [], rfl, by assumption, ?q_h90, Younger.nil, ReadsAre.nil⟩ ?q_turn ?q_done
    case q_small => decide +kernel
    case q_lsize => decide +kernel
    case q_sz => rw [sizeLine_eq]; omega
    case q_h90 =>
      intro p hp
      have hp2 : p ∈ (_, _) :: (_ ++ [(_, _), (_, _), (_, _)]) := hp
      rcases List.mem_cons.mp hp2 with rfl | hp2
      · exact Ne.symm (off1_mem off (90, _) (.head _))
      · exact h90 p hp2
    case q_turn =>
      rintro i ys nw tk I C D oI oC m' s₃ E' hi ⟨ps, tlp, rfl, ht, h90, hb, hR⟩ ho hg hC hvx F N off
      have hF := figOk i hi
      k_steps
      refine Hold.mk ?_
      exact rds_end (Eq.trans (by assumption) (by assumption)) (by assumption) (by k_asm) (by k_asm) (by assumption) off h90 hb hR (by assumption) (by assumption) (figR_succ i)
    case q_done =>
      rintro s₄ D2 ys2 nw2 ho2 hg2 ⟨ps2, tl2, rfl, ht2, h902, hy2, hR2⟩ h2 k2 F2 N2 off2
      obtain ⟨rest, Xt, tt, hXd, hXJ, N3, hm2, hr2, hm1, hr1, hmt, hm90, hne⟩ := law_ledger N2 off2 hy2 off.2 hy hR2 hR (by show (_ : Nat) ≠ _; omega) (by show (_ : Nat) ≠ _; omega) (by show (_ : Nat) ≠ _; omega) (by assumption) (by assumption)
      clear N2 off2 hy2 hR2 off hy hR
      replace ho2 : s₄.os = s₃.os := ho2
      obtain ⟨hXl, hXs⟩ := hXJ.sgn
      k_steps
      refine Hold.mk ?_
      refine comp_two (SlP Xt) (fun a n => a = 0 ∧ n = 7) (fun i b n => b = (i : Int) + 1 ∧ n = 7 - i) 7 7 (fun a n h => h) (fun i b n h => by omega) (by rw [sizeLine_eq]; omega) rfl (by k_asm) (by k_asm) (by with_unfolding_all rfl) (by decide) (by rfl) (by decide) (by rfl) (by rfl) (by decide) ?q_src ?q_inner ?q_el ?q_fin
      case q_src =>
        k_steps
        refine Hold.mk ?_
        exact ⟨_, _, _, _, _, _, 7, rfl, rfl, hg2, by k_asm, by k_asm, by assumption, by decide +kernel, by decide +kernel, rfl, rfl⟩
      case q_inner =>
        intro i s₅ I oI C oC D ys' m' tk E' hi ho5 hg5 hC hvx F N
        k_steps
        refine Hold.mk ?_
        exact ⟨_, _, _, _, _, _, 7 - i, rfl, rfl, hg5, by k_asm, by k_asm, by assumption, small_one (by omega) (by omega) (by omega) (by omega), (by rw [rangeSize_one]; split <;> omega), rfl, rfl⟩
      case q_el =>
        intro i j b2 n2 s₅ I2 oI2 I oI C oC D ys' m' tk tk2 E' hi hB hj ho5 hg5 hC hvx hvy F N
        k_steps
        refine Hold.mk ?_
        exact ⟨⟨_, _, _, rfl, by omega, by omega, by omega⟩, rfl, hg5, by k_asm, by k_asm⟩
      case q_fin =>
        intro D3 ys3 s₅ hl3 hp3 ho5 hg5 F5 N5 off5
        replace ho5 : s₅.os = s₄.os := ho5
        k_steps
        refine Hold.mk ?_
        rename News _ _ _ _ => N'
        have N4 := news_pick N'
        clear N'
        have hne2 := for_ne N4 (by assumption) hne
        refine iter_listTurns (vs := [.str (Str.ofString "") _] ++ ys3) (by rfl) (by k_asm) N4 (.tail _ (.head _)) rfl rfl ?_
        intro I hI
        k_lt hI
        refine vals_inv (ForJ _ (_, _) rest _) ?q_turn ?q_done _ 0 _ _ rfl (Nat.zero_le _) (ForJ.start (by assumption))
        case q_done =>
          rintro m₁ news₁ h tk ⟨oc, v₀, u, rfl, hoc, rfl⟩ F₁ N₁
          k_steps
          refine Hold.mk ?_
          refine ⟨rfl, fun b o e => F₁.keep b o e, ⟨GrownAt.of N₁ (.tail _ (.tail _ hm90)), trivial⟩, ?_, ?_⟩
          · exact ho5.trans (ho2.trans ho)
          · assumption
        case q_turn =>
          rintro i x h tk m₁ news₁ Wp hx ⟨oc, v₀, u, rfl, hoc, rfl⟩ hW F₁
          obtain ⟨y, ty, rfl, hy7, hys⟩ := one_of hXl hXs hp3 hx
          ktu_objs
          have hOk : OneOk y := ⟨hy7, hys⟩
          have hL1 : lib y = !numR y := lib_num hOk
          have hS1 : (Str.ofString "a" ++ y).cps.size ≤ 1000 := a_size hOk
          have hS2 : Txt.rfind (Str.ofString "a" ++ y) (Str.ofString "/") = -1 := a_slash hOk
          have hS3 : (Txt.slice (Str.ofString "a" ++ y) (some 0) (some 1) != Str.ofString ".") = true := a_first y
          have hS4 : Txt.rfind (Str.ofString "a" ++ y) (Str.ofString ".") ≠ 0 := a_dot y
          have hE8 : (endS y).length ≤ 8 := end_len hOk
          have hLd : ((Txt.split y (Str.ofString ".")).getD (-1 + ((Txt.split y (Str.ofString ".")).length : Int)).toNat Str.empty).length ≤ 7 := last_len hOk
          have hL2 : hdnB y = (!numR y && namR y) := hdn_num hOk
          have hy10 := sgn_ne10 ⟨hy7, hys⟩
          have hy1000 : y.cps.size ≤ 1000 := Nat.le_trans hy7 (by decide)
          k_steps
          refine Hold.mk ?_
          refine' LCt.CompSrcT.ledger (by rfl) ?q_F ?q_N ?q_M ?q_Z ?_
          case q_F => k_asm
          case q_N => k_asm
          case q_M => repeat (first | assumption | refine List.mem_cons_of_mem _ ?_)
          case q_Z => have := hr2.1; rw [sizeLine_eq]; simp [figR] at this ⊢; omega
          intro g2'
          refine rest_all (fun i => takesR ((figR 6).getD i ([], none)) y) (.inr ⟨LCg.lst ys2, ?_, rfl, _, rfl⟩) rfl rfl (by decide) ?_ ?_
          · repeat (first | assumption | refine List.mem_cons_of_mem _ ?_)
          · intro i hi ys v I oI C oC D m₂ h tk E' hv hC hvx F' N'
            obtain ⟨r, rd, rfl, hri, hRd⟩ := hr2.at (show ys2[i]? = some v by simpa using hv)
            have hgd : (figR 6).getD i ([], none) = r := by rw [List.getD_eq_getElem?_getD, hri]; rfl
            k_steps
            refine Hold.mk ?_
            refine TestEnd.intro ?_ (by k_asm) (by k_asm) (fun _ hp => hp)
            simp only [hgd]
          · intro zs hzs
            have hb := taken (Rs := figR 6) (by have := hr2.1; simpa [figR] using this) hzs
            rw [show ((figR 6).any fun r => takesR r y) = numR y from rfl] at hb
            k_steps
            refine Hold.mk ?_
            rename News _ _ _ _ => N6
            refine cut_at (fun v => v = .bool (!numR y && namR y)) (by k_asm) N6 ?_ ?_
            · k_steps
              · refine Hold.mk ?_
                exact CutAt.intro (by rename numR y = true => hn; rw [hn]; rfl) (by k_asm) (by k_asm) (fun _ hp => hp)
              · refine Hold.mk ?_
                refine' LCt.CompSrcT.ledger (by rfl) ?q_F ?q_N ?q_M ?q_Z ?_
                case q_F => k_asm
                case q_N => k_asm
                case q_M => repeat (first | assumption | refine List.mem_cons_of_mem _ ?_)
                case q_Z => have := hr1.1; rw [sizeLine_eq]; simp [namesR] at this ⊢; omega
                intro g2'
                refine rest_all (fun i => takesR (namesR.getD i ([], none)) y) (.inr ⟨LCg.lst ys, ?_, rfl, _, rfl⟩) rfl rfl (by decide) ?_ ?_
                · repeat (first | assumption | refine List.mem_cons_of_mem _ ?_)
                · intro i hi zs v I oI C oC D m₂ h tk E' hv hC hvx F' N'
                  obtain ⟨r, rd, rfl, hri, hRd⟩ := hr1.at (show ys[i]? = some v by simpa using hv)
                  have hgd : namesR.getD i ([], none) = r := by rw [List.getD_eq_getElem?_getD, hri]; rfl
                  k_steps
                  refine Hold.mk ?_
                  refine TestEnd.intro ?_ (by k_asm) (by k_asm) (fun _ hp => hp)
                  simp only [hgd]
                · intro zs2 hzs2
                  have hb2 := taken (Rs := namesR) (by have := hr1.1; simpa [namesR] using this) hzs2
                  rw [show (namesR.any fun r => takesR r y) = namR y from rfl] at hb2
                  k_steps
                  refine Hold.mk ?_
                  exact CutAt.intro (by rename numR y = false => hn; rw [hn]; rfl) (by k_asm) (by k_asm) (fun _ hp => by repeat (first | exact hp | refine List.mem_cons_of_mem _ ?_))
            · intro v h' tk' hv F7 N7
              subst hv
              k_steps
              refine Hold.mk ?_
              rename News _ _ _ _ => N8
              refine cut_at (fun v => ∃ t, v = .str (endS y) t) (by k_asm) N8 ?_ ?_
              · have hsp1 : 1 ≤ (Txt.split y (Str.ofString ".")).length := split_pos y _
                have hsp2 := split_le y (Str.ofString ".")
                k_steps
                all_goals (refine Hold.mk ?_)
                · exact CutAt.intro (V := fun v => ∃ t, v = .str (endS y) t) ⟨_, endS_none (by assumption)⟩ (by k_asm) (by k_asm) (fun _ hp => hp)
                · refine CutAt.intro (V := fun v => ∃ t, v = .str (endS y) t) ⟨_, endS_dot (by assumption)⟩ (by k_asm) (by k_asm) ?_
                  exact fun _ hp => List.mem_cons_of_mem _ hp
              · rintro v h' tk' ⟨te, rfl⟩ F9 N9
                have hL4 := root_end y
                have hL3 := tail_end y
                have hT8 : (extTail (Str.ofString "a" ++ y)).length ≤ 8 := by rw [hL3]; exact hE8
                have hL5 := fiv_num ⟨hy7, hys⟩
                have hL6 := six_num ⟨hy7, hys⟩
                rw [← hL3] at hL5 hL6
                k_steps
                refine Hold.mk ?_
                rename News _ _ _ _ => N10
                refine cut_at (fun v => v = .bool (numR y)) (by k_asm) N10 ?_ ?_
                · k_steps
                  · refine Hold.mk ?_
                    rename News _ _ _ _ => N12
                    refine comp_digits (z := Txt.slice (extTail (Str.ofString "a" ++ y)) (some 1) none) (by with_unfolding_all rfl) (by decide) (by rfl) (by decide) (by rfl) (by decide) (by rfl) ?q_hz (by k_asm) N12 ?q_src ?q_fin
                    case q_hz => exact Nat.le_trans (Txt.slice_le _ _ _) (Nat.le_trans hT8 (by decide))
                    case q_src =>
                      k_steps
                      refine Hold.mk ?_
                      exact CutAt.intro (V := fun v => ∃ t, v = .str (Txt.slice (extTail (Str.ofString "a" ++ y)) (some 1) none) t) ⟨_, rfl⟩ (by k_asm) (by k_asm) (fun _ hp => hp)
                    case q_fin =>
                      intro D ys n h' tk' hys F13 N13
                      k_steps
                      refine Hold.mk ?_
                      have e : (Txt.slice (extTail (Str.ofString "a" ++ y)) (some 1) none).cps.toList.all isdC = numR y := by rw [← hL5, decide_eq_true (by omega), Bool.true_and]
                      refine CutAt.intro (V := fun v => v = .bool (numR y)) (congrArg Value.bool e) (by k_asm) (by k_asm) ?_
                      exact fun _ hp => by repeat (first | exact hp | refine List.mem_cons_of_mem _ ?_)
                  · refine Hold.mk ?_
                    have e : decide (1 < ((extTail (Str.ofString "a" ++ y)).length : Int)) = numR y := by rw [← hL5, decide_eq_false (by omega), decide_eq_false (by omega), Bool.false_and]
                    refine CutAt.intro (V := fun v => v = .bool (numR y)) (congrArg Value.bool e) (by k_asm) (by k_asm) ?_
                    exact fun _ hp => hp
                · rintro v h' tk' rfl F11 N11
                  k_steps
                  refine Hold.mk ?_
                  rename News _ _ _ _ => N14
                  refine cut_at (fun v => v = .bool (hdnB y)) (by k_asm) N14 ?_ ?_
                  · k_steps
                    all_goals (refine Hold.mk ?_)
                    all_goals refine CutAt.intro (V := fun v => v = .bool (hdnB y)) ?_ (by k_asm) (by k_asm) ?_
                    all_goals first
                      | exact fun _ hp => by repeat (first | exact hp | refine List.mem_cons_of_mem _ ?_)
                      | (refine congrArg Value.bool ?_; rw [hL6]
                         first
                           | (rename List.any _ _ = true => hA; rw [hA]; rfl)
                           | (rename List.any _ _ = false => hA; rw [hA]
                              first
                                | (rename bne (extTail _) _ = false => hB; rw [hB]; rfl)
                                | (rename bne (extTail _) _ = true => hB; rw [hB]; rfl)))
                  · rintro v h' tk' rfl F15 N15
                    have hR : hdnB y = hdnB y := rfl
                    k_steps
                    refine' hW _ _ _ _ _ ?q_F ?q_N ?q_off ⟨?q_sub, trivial⟩ ⟨_, _, _, rfl, ?q_hd, ?q_map⟩
                    case q_hd => assumption
                    case q_F => k_asm
                    case q_N =>
                      refine' cb_drop (by assumption) (fun p hp => ?_)
                      exact .tail _ (.tail _ (.tail _ (.tail _ (.tail _ hp))))
                    case q_off =>
                      rename _ ∧ _ ∧ AllLt I rest => hI2
                      intro p hp q hq
                      cases List.mem_singleton.mp hq
                      rcases List.mem_cons.mp hp with rfl | hp
                      · exact Nat.ne_of_lt hI2.1
                      rcases List.mem_cons.mp hp with rfl | hp
                      · exact Nat.ne_of_lt hI2.2.1
                      · exact Nat.ne_of_lt (kst_ltOf hI2.2.2 p hp)
                    case q_sub => exact .tail _ (.head _)
                    case q_map => 
                      refine map_close (fun x h2 => ?_)
                      have n1 : x ≠ "number" := fun e => by subst e; revert h2; decide
                      have n2 : x ≠ "ending" := fun e => by subst e; revert h2; decide
                      have n3 : x ≠ "tail" := fun e => by subst e; revert h2; decide
                      simp only [h2, n1, n2, n3, if_false, Bool.false_eq_true]
end Mine
end
theorem PySem.Challenge.cw_ik0051_01_holds : PySem.Challenge.rw_ik0051_01.Holds := by
  exact Mine.lawh
