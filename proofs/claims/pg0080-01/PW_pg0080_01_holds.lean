import PyProof.Rows.All
import Wide.All
import OpenK.AllK
import Wide.FinOn
import Lean
import PySem.Challenge.RW_pg0080_01
set_option compiler.extract_closed false
set_option genInjectivity false
set_option genSizeOf false
open PySem PySem.W PyProof.Rows PySem.Calls
set_option Elab.async false
set_option maxRecDepth 100000
set_option maxHeartbeats 8000000
set_option linter.unusedVariables false
namespace Mine
open_top hd for PySem.Challenge.rw_pg0080_01
theorem seed : ∀ w : World, (hd.heap_39 w.params) = hd.heap_39 w.params ∧ Challenge.rw_pg0080_01 = Challenge.rw_pg0080_01 := by
  k_fill
  exact fun _ => ⟨rfl, rfl⟩
section
theorem seed1 : True := by
  w_top off
  exact True.intro
def lamOf : List Stmt → Option (Arguments × PySem.Expr × Scope)
  | [_, .Assign _ (.Lambda p b s _) _, _] => some (p, b, s)
  | _ => none
def bodyIn (K : Frag) (f : Addr) : List Stmt := match K.lookup f with
  | some ⟨_, _, .func fd, _⟩ => (match fd.body with | .stmts b => b | _ => [])
  | _ => []
noncomputable abbrev lamP : Σ' (p : Arguments) (b : PySem.Expr) (s : Scope), ∀ P, lamOf (bodyIn (hd.heap_39 P) 126) = some (p, b, s) := ⟨_, _, _, by with_unfolding_all exact fun _ => rfl⟩
abbrev lexD (H : Nat → Int) (k : Nat → Tok) (ln : Int) (t1 : Tok) (ins : Value) (ws : Tok) (pb : Addr) : List DictEntry :=
  [⟨H 0, .str (Str.ofString "lineno") (k 0), .int ln t1⟩, ⟨H 1, .str (Str.ofString "instream") (k 1), ins⟩, ⟨H 2, .str (Str.ofString "whitespace") (k 2), .str (Str.ofString "\n\t\r ") ws⟩, ⟨H 3, .str (Str.ofString "pushback") (k 3), .ref pb⟩]
abbrev strD (H : Nat → Int) (k : Nat → Tok) (ln : Int) (t1 : Tok) (ins : Value) (ws : Tok) (pb : Addr) (lam : Addr) : List DictEntry :=
  [⟨H 0, .str (Str.ofString "lineno") (k 0), .int ln t1⟩, ⟨H 1, .str (Str.ofString "instream") (k 1), ins⟩, ⟨H 2, .str (Str.ofString "whitespace") (k 2), .str (Str.ofString "\n\t\r ") ws⟩, ⟨H 3, .str (Str.ofString "pushback") (k 3), .ref pb⟩, ⟨H 4, .str (Str.ofString "read") (k 4), .ref lam⟩]
abbrev chv (q : Nat × Tok) : Value := .str ⟨#[q.1]⟩ q.2
structure Lx where
  (x dx st ds pb pb2 lf lam cc cel : Addr)
  (H H2 : Nat → Int) (k k2 : Nat → Tok) (l2 : Int) (t2 ws ws2 : Tok) (qual : Str) (pm ctv : Value) (oc ol : Obj) (vs : Array Value) (tq : Tok)
structure Lx.Ok (e : Lx) : Prop where
  hoc : e.oc.data = .fields e.vs
  hvs : e.vs[1]? = some (.str e.qual e.tq)
  hol : e.ol.data = .cell (some (.ref e.lf))
  ord : (@LT.lt Nat _ e.lf e.cel) ∧ (@LT.lt Nat _ e.cel e.ds) ∧ (@LT.lt Nat _ e.ds e.st) ∧ (@LT.lt Nat _ e.st e.cc) ∧ (@LT.lt Nat _ e.cc e.lam) ∧ (@LT.lt Nat _ e.lam e.dx) ∧ (@LT.lt Nat _ e.dx e.x) ∧ (@LT.lt Nat _ e.x e.pb)
noncomputable abbrev lexL (e : Lx) (ln : Int) (t1 : Tok) (cs : List Value) (nf : Nat) : List (Addr × Obj) :=
  [(e.lf, W.listOf cs.toArray nf), (e.dx, dictOf (lexD e.H e.k ln t1 (.ref e.st) e.ws e.pb) 4), (e.x, instObj 52 e.dx), (e.st, instObj 52 e.ds), (e.ds, dictOf (strD e.H2 e.k2 e.l2 e.t2 .none e.ws2 e.pb2 e.lam) 5),
   (e.lam, kla_obj (Str.ofString "<lambda>") e.qual lamP.1 lamP.2.1 lamP.2.2.1 [(Str.ofString "left", e.cel)] e.pm e.cc e.ctv), (e.cc, e.oc), (e.cel, e.ol)]
def nlOf (c : Nat) : Int := if c = 10 then 1 else 0
end
section
theorem seed2 : True := by
  w_top off
  exact True.intro
section
variable {prog : Program} {w : World} {A : Around} {E : Value → Shared → Prop} {s : Shared} {h₀ h : Heap} {L D : Addr} {m : Str → Option Value} {news news' : List (Addr × Obj)} {n : Nat}
theorem pop0 {v : Value} {vs : List Value} {u : Tok} {Q : Value → Shared → Prop} (F : Fr h₀ L s.heap m) (N : News h₀ L s.heap news) (U : Upd D (W.listOf (v :: vs).toArray n) (W.listOf vs.toArray (n + 1)) news news')
    (hz : vs.length < 5000) (h : ∀ h', Fr h₀ L h' m → News h₀ L h' news' → Q v { s with heap := h' }) : wpAny (model prog w) A (call (.builtin "list.pop") [.ref D, .int 0 u]) Q E s :=
  kl_popAt (k := 0) (p := []) (q := vs) (y := v) F N rfl (by simp [seqIndex?]) rfl U (by rw [PySem.sizeLine_eq]; simp; omega) h
end
theorem off3_keys {I C D : Addr} : ∀ {l l' : List (Addr × Obj)}, LCg.Off3 I C D l → l.map (·.1) = l'.map (·.1) → LCg.Off3 I C D l'
  | [], [], _, _ => trivial
  | [], _ :: _, _, e => by cases e
  | _ :: _, [], _, e => by cases e
  | a :: l, b :: l', h, e => by
    obtain ⟨e1, e2⟩ := List.cons.inj e
    refine ⟨?_, off3_keys h.2 e2⟩
    have e1' : a.1 = b.1 := e1
    rw [← e1']; exact h.1
theorem join1 (c : Nat) : Txt.join (Str.ofString "") [⟨#[c]⟩] = ⟨#[c]⟩ := by rfl
theorem off1_mem {D : Addr} : ∀ {l : List (Addr × Obj)}, LCg.Off1 D l → ∀ p ∈ l, p.1 ≠ D
  | [], _, _, h => nomatch h
  | _ :: _, x, p, h => by
    rcases List.mem_cons.mp h with rfl | h
    · exact x.1
    · exact off1_mem x.2 p h
theorem news_tail {h₀ h : Heap} {L : Addr} {q : Addr × Obj} {l : List (Addr × Obj)} (N : News h₀ L h (q :: l)) : News h₀ L h l := fun x hx => N x (List.mem_cons_of_mem _ hx)
section
theorem slot_ci_next : Slot "callable_iterator" "__next__" "callable_iterator.__next__" :=
  .of (owner := "callable_iterator") (n := "__next__") (by rw [typeLookup_type, builtinLookup_eq_fast]; kernel_rfl) (by decide +kernel) (by decide +kernel) (by decide +kernel)
    (by first | exact .inl (by decide +kernel) | exact .inr (by decide +kernel)) (by rw [isSubtype_type]; kernel_rfl)
theorem slot_ci_iter : Slot "callable_iterator" "__iter__" "callable_iterator.__iter__" :=
  .of (owner := "callable_iterator") (n := "__iter__") (by rw [typeLookup_type, builtinLookup_eq_fast]; kernel_rfl) (by decide +kernel) (by decide +kernel) (by decide +kernel)
    (by first | exact .inl (by decide +kernel) | exact .inr (by decide +kernel)) (by rw [isSubtype_type]; kernel_rfl)
theorem entry_ci_next : entryFor table "callable_iterator.__next__" = some Builtin.«callable_iterator.__next__» := entryFor_of_tree (by kernel_rfl)
theorem entry_ci_iter : ∃ b, entryFor table "callable_iterator.__iter__" = some b ∧ ∀ v, b ⟨[v], []⟩ = ret v := ⟨Builtin.«dict_keyiterator.__iter__», entryFor_alias (id' := "dict_keyiterator.__iter__") (by kernel_rfl) (by first | rfl | decide +kernel) (by decide +kernel) (by kernel_rfl), fun _ => rfl⟩
theorem args_ci_next (a : Value) : argsOk "callable_iterator.__next__" ⟨[a], []⟩ := by unfold argsOk; kernel_rfl
theorem args_ci_iter (a : Value) : argsOk "callable_iterator.__iter__" ⟨[a], []⟩ := by unfold argsOk; kernel_rfl
theorem look_method_call : typeLookup (.type "method") "__call__" = pure (some (.builtin "method.__call__")) := by rw [typeLookup_type, builtinLookup_eq_fast]; kernel_rfl
theorem args_iter2 (a b : Value) : argsOk "iter" ⟨[a, b], []⟩ := by unfold argsOk; kernel_rfl
abbrev ciObj (q : Addr) (x : Str) (t : Tok) : Obj := { cls := .type "callable_iterator", data := .fields #[.ref q, .str x t, .bool false] }
variable {prog : Program} {w : World} {A : Around} {E : Value → Shared → Prop} {s : Shared}
theorem wpAny_callBorrowed {f : Value} {pos : List Value} {Q : Value → Shared → Prop}
    (hc : codeAny (model prog w) A (.call f ⟨pos, []⟩) (fun r s' => match r with | .ok (.ret v) => Q v s' | .ok _ => False | .error e => E e s') s) :
    wpAny (model prog w) A (callBorrowed f pos) Q E s := fun Γ p hΓ => by
  unfold callBorrowed
  rw [Sem.wp_call]
  refine wpCode_mono ?_ (hc _ p rfl (hΓ.enter _ none p (by intro x; cases x)))
  intro r s' hr
  match r, hr with
  | .ok (.ret v), hr => exact hr
  | .ok .next, hr => exact hr.elim
  | .ok .brk, hr => exact hr.elim
  | .ok .cont, hr => exact hr.elim
  | .error e, hr => exact hr
theorem borrows_method {q fa : Addr} {self : Value} {of : Obj} {fd : FuncData} {Q : Bool → Shared → Prop} (hq : s.heap.get? q = some (methodObj (.ref fa) self)) (hf : s.heap.get? fa = some of) (hfd : of.data = .func fd) (h : Q true s) :
    wpAny (model prog w) A (borrowsExactly (.ref q)) Q E s := by
  unfold borrowsExactly
  dsimp only
  refine wpAny_bind (wpAny_load hq ?_)
  dsimp only
  rw [if_pos (by decide)]
  show wpAny _ _ (load fa >>= _) _ _ s
  refine wpAny_bind (wpAny_load hf ?_)
  rw [hfd]
  exact wpAny_pure h
theorem call_iter2 {q : Addr} {f self : Value} {x : Str} {t : Tok} {Q : Value → Shared → Prop} (hq : s.heap.get? q = some (methodObj f self))
    (h : Q (.ref s.heap.objs.size) { s with heap := s.heap.push (ciObj q x t) }) :
    wpAny (model prog w) A (call (.builtin "iter") [.ref q, .str x t]) Q E s := by
  refine call_function_entry (by decide +kernel) (by decide +kernel) kdk_entry_iter (args_iter2 _ _) ?_
  unfold Builtin.«iter»
  refine wpAny_bind (m := someArgs "iter" 1 2 _) (wpAny_of_eq (a := [Value.ref q, .str x t]) (by first | rfl | kernel_rfl!) ?_)
  dsimp only
  refine wpAny_bind (wpAny_specialOf ⟨_, hq, rfl⟩ look_method_call ?_)
  rw [if_neg (by simp)]
  refine wpAny_bind (wpAny_rule ?_)
  refine wpAny_bind ?_
  unfold newFields
  exact wpAny_newObj_type (wpAny_pure ⟨_, rfl, h⟩) (by size_fits)
theorem ci_iter {it q : Addr} {x : Str} {t : Tok} {Q : Value → Shared → Prop} (hit : s.heap.get? it = some (ciObj q x t)) (h : Q (.ref it) s) : wpAny (model prog w) A (pyIter (.ref it)) Q E s := by
  obtain ⟨b, hb, hv⟩ := entry_ci_iter
  refine wpAny_pyIter_slot (T := "callable_iterator") ⟨_, hit, rfl⟩ slot_ci_iter (wpAny_call_entry slot_ci_iter ⟨_, hit, rfl⟩ hb ?_ (args_ci_iter _))
  rw [hv]
  exact wpAny_pure ⟨_, rfl, "callable_iterator", _, ⟨_, hit, rfl⟩, slot_ci_next.lookup, h⟩
theorem ci_next {it q fa : Addr} {self : Value} {x : Str} {t : Tok} {Q : Option Value → Shared → Prop} (hh : A.handled = none)
    (hit : s.heap.get? it = some (ciObj q x t)) (hq : s.heap.get? q = some (methodObj (.ref fa) self)) {of : Obj} {fd : FuncData} (hf : s.heap.get? fa = some of) (hfd : of.data = .func fd)
    (hc : codeAny (model prog w) A.in1 (.call (.ref fa) ⟨[self], []⟩) (fun r s' => match r with
      | .ok (.ret v) => ∃ y u, v = .str y u ∧ s'.heap.get? it = some (ciObj q x t) ∧ s'.heap.get? q = some (methodObj (.ref fa) self) ∧ s'.heap.get? fa = some of ∧
          (y ≠ x → Q (some (.str y u)) s') ∧ (y = x → ∀ h', Heap.ExtBut it s'.heap h' → Q none { s' with heap := h' })
      | .ok _ => False | .error e => False) s) :
    wpAny (model prog w) A (pyNext (.ref it)) Q E s := by
  have hT : s.TypeIs (.ref it) "callable_iterator" := ⟨_, hit, rfl⟩
  unfold pyNext
  refine wpAny_bind (wpAny_attempt (wpAny_callSpecial?_slot (name := Str.ofString "__next__") hT slot_ci_next
    (wpAny_call_entry slot_ci_next hT entry_ci_next ?_ (args_ci_next _))))
  unfold Builtin.«callable_iterator.__next__»
  refine wpAny_bind (wpAny_of_eq (a := (Value.ref it, [])) rfl ?_)
  dsimp only
  refine wpAny_bind (wpAny_field hit rfl (x := .bool false) rfl ?_)
  rw [if_neg (by decide)]
  refine wpAny_bind (wpAny_field hit rfl (x := .ref q) rfl ?_)
  refine wpAny_bind (wpAny_attempt ?_)
  unfold callOutOfASlot
  refine wpAny_bind (borrows_method hq hf hfd ?_)
  rw [if_pos rfl]
  refine wpAny_callBorrowed (method_call hq (codeAny_mono hc (fun r s' hr => ?_)))
  match r, hr with
  | .ok .next, hr => exact hr.elim
  | .ok .brk, hr => exact hr.elim
  | .ok .cont, hr => exact hr.elim
  | .error e, hr => exact hr.elim
  | .ok (.ret v), hr =>
    obtain ⟨y, u, rfl, hit', hq', hf', h1, h2⟩ := hr
    dsimp only
    refine wpAny_bind (wpAny_field hit' rfl (x := .bool false) rfl ?_)
    rw [if_neg (by decide)]
    refine wpAny_bind (wpAny_field hit' rfl (x := .str x t) rfl ?_)
    refine wpAny_bind (wpAny_holding (eqBool_str ?_))
    by_cases hxy : y = x
    · subst hxy
      rw [if_neg (by simp)]
      refine wpAny_bind (wpAny_rule ?_)
      refine wpAny_bind (wpAny_bind (m := field (.ref it) 0) (wpAny_field hit' rfl (x := .ref q) rfl ?_))
      refine wpAny_bind (m := slotLetsGo _ _ _) ?_
      unfold slotLetsGo
      dsimp only
      refine wpAny_bind (borrows_method hq' hf' hfd ?_)
      rw [if_pos rfl]
      refine wpAny_pure ?_
      refine wpAny_bind (m := setField _ _ _) (wpAny_setField hit' rfl (by simp) ?_)
      have g1 := Heap.get?_update_self (h := s'.heap) (Obj.mapFields (·.setIfInBounds 0 Value.none)) hit' rfl
      refine wpAny_bind (m := setField _ _ _) (wpAny_setField g1 rfl (by simp) ?_)
      have g2 := Heap.get?_update_self (Obj.mapFields (·.setIfInBounds 1 Value.none)) g1 rfl
      refine (wpAny_setField g2 rfl (by simp) ?_)
      show wpAny _ _ (newExc (.type "StopIteration") [] >>= _) _ _ _
      refine wpAny_bind ?_
      simp only [newExc, newTuple]
      refine wpAny_bind (wpAny_newObj_type ?_ (by size_fits))
      refine wpAny_bind (m := firstArgMember _ _) (wpAny_of_eq (a := Value.none) (by first | rfl | (simp only [firstArgMember]; rfl)) ?_)
      refine wpAny_newObj_type ?_ (by size_fits)
      simp only [raiseNew]
      refine wpAny_bind (wpAny_handled ?_)
      rw [show A.in1.handled = none from hh]
      refine wpAny_bind (wpAny_pure (wpAny_throw ?_))
      refine wpAny_bind (wpAny_isInstance (T := "StopIteration") (b := true) ⟨_, Heap.get?_push_size _ rfl, rfl⟩ isSubtype_stop ?_)
      exact wpAny_pure (h2 rfl _ ((((((Heap.SameBut.update ..).extBut.trans (Heap.SameBut.update ..).extBut).trans (Heap.SameBut.update ..).extBut)).push _).push _))
    · rw [if_pos (by simp; exact fun e => hxy e.symm)]
      refine wpAny_bind (wpAny_pure (wpAny_pure ⟨_, rfl, ?_⟩))
      exact wpAny_pure (h1 hxy)
end
section
variable {prog : Program} {w : World} {A : Around} {E : Value → Shared → Prop} {s : Shared} {env : Env} {h₀ : Heap} {L : Addr} {m : Str → Option Value}
def itRest (prog : Program) (w : World) (A : Around) (E : Value → Shared → Prop) (env : Env) (v : Str) (body : List Stmt) (Q : Flow → Shared → Prop) (I : Addr) : Nat → Shared → Prop
  | 0, _ => False
  | n + 1, s => wpAny (model prog w) A (pyNext (.ref I)) (OwitTurn prog w A E env v body Q (itRest prog w A E env v body Q I n)) E s
theorem itRest.succ {v : Str} {body : List Stmt} {Q : Flow → Shared → Prop} {I : Addr} {n : Nat} (h : wpAny (model prog w) A (pyNext (.ref I)) (OwitTurn prog w A E env v body Q (itRest prog w A E env v body Q I n)) E s) :
    itRest prog w A E env v body Q I (n + 1) s := h
def itAt (prog : Program) (w : World) (A : Around) (E : Value → Shared → Prop) (env : Env) (v : Str) (body : List Stmt) (Q : Flow → Shared → Prop) (it : Value) (s₂ : Shared) : Prop :=
  ∃ I n, it = .ref I ∧ itRest prog w A E env v body Q I n s₂
theorem itAt.intro (n : Nat) {v : Str} {body : List Stmt} {Q : Flow → Shared → Prop} {I : Addr} (h : itRest prog w A E env v body Q I n s) : itAt prog w A E env v body Q (.ref I) s := ⟨I, n, rfl, h⟩
theorem for_it {v : Str} {px pos : Pos} {iter : PySem.Expr} {body : List Stmt} {Q : Flow → Shared → Prop}
    (h : wpAny (model prog w) A (eval iter env) (fun xv s₁ => wpAny (model prog w) A (pyIter xv) (itAt prog w A E env v body Q) E s₁) E s)
    (hs : ∀ x, foldedSetIterable iter env x = pure x := by intro _; rfl) (hE : PassesOwn (model prog w) A env E := by passes_own) :
    wpAny (model prog w) A (exec (.For (.Name v px) iter body [] pos) env) Q E s := by
  refine wpAny_For (wpAny_mono h (fun xv s₁ h₁ => wpAny_mono h₁ (fun it s₂ h₂ => ?_) fun _ _ z => z) fun _ _ z => z) hs
  obtain ⟨I, n, rfl, h₂⟩ := h₂
  refine codeAny_forLoop (R := fun r s' => match r with | .ok f => Q f s' | .error e => cameBackBy (model prog w) A env E e s') (fun k s' => itRest prog w A E env v body Q I k s') ?_ n h₂
  intro k s' hk
  cases k with
  | zero => exact hk.elim
  | succ k =>
    refine wpAny_passesOwn hE (wpAny_mono (hk : wpAny (model prog w) A (pyNext (.ref I)) _ E s') (fun r s₁ hr => ?_) fun _ _ z => z)
    cases r with
    | none => exact wpAny_execs_nil hr
    | some y =>
      refine wpAny_passesOwn hE (wpAny_assign_Name (wpAny_mono hr (fun _ s₂ h₂ => ?_) fun _ _ z => z))
      refine wpAny_passesOwn hE (wpAny_mono h₂ (fun f s₃ h₃ => ?_) fun _ _ z => z)
      cases f with
      | next => exact ⟨k, Nat.lt_succ_self k, h₃⟩
      | cont => exact ⟨k, Nat.lt_succ_self k, h₃⟩
      | brk => exact h₃
      | ret _ => exact h₃
theorem fr_norm {h : Heap} {M M' : Str → Option Value} (F : Fr h₀ L h M) (e : ∀ y, M y = M' y) : Fr h₀ L h M' := by
  rw [← funext e]; exact F
theorem news_sub {h : Heap} {l l' : List (Addr × Obj)} (N : News h₀ L h l) (e : ∀ q ∈ l', q ∈ l) : News h₀ L h l' := fun q hq => N q (e q hq)
end
section
variable {prog : Program} {w : World} {A : Around} {E : Value → Shared → Prop} {s : Shared} {h₀ : Heap} {L q : Addr} {m : Str → Option Value} {news : List (Addr × Obj)}
theorem iter2_N {f self : Value} {x : Str} {t : Tok} {Q : Value → Shared → Prop} (F : Fr h₀ L s.heap m) (N : News h₀ L s.heap news) (hq : (q, methodObj f self) ∈ news)
    (h : ∀ I h', Fr h₀ L h' m → News h₀ L h' ((I, ciObj q x t) :: news) → (∀ p ∈ news, p.1 < I) → Q (.ref I) { s with heap := h' }) :
    wpAny (model prog w) A (call (.builtin "iter") [.ref q, .str x t]) Q E s :=
  call_iter2 (N _ hq).1 (h _ _ (F.push _) (News.push F N _ rfl) fun p hp => Heap.lt_size (N p hp).1)
end
section
variable {prog : Program} {w : World} {A : Around} {E : Value → Shared → Prop} {s : Shared}
def signIn (x : Str) (c : Nat) : Bool := decide (c ∈ x.cps.toList)
theorem in_one {x : Str} {c : Nat} {t u : Tok} {Q : Value → Shared → Prop} (h : Q (.bool (signIn x c)) s) : wpAny (model prog w) A (compareOp .In (.str ⟨#[c]⟩ t) (.str x u)) Q E s :=
  in_str (by rw [StrLaws.found_one]; exact h)
end
theorem up_lt {n k a b : Nat} (h : n < a) (e : a + k ≤ b) : n + k < b := Nat.lt_of_lt_of_le (Nat.add_lt_add_right h k) e
end
section
theorem seed8 : True := by
  w_top off
  exact True.intro
section
variable {prog : Program} {w : World} {A : Around} {E : Value → Shared → Prop} {s : Shared} {env : Env} {h₀ : Heap} {L : Addr} {m : Str → Option Value}
def TurnEnd (h₀ : Heap) (L I : Addr) (oI : Obj) (S : List (Addr × Obj) → Prop) (J : (Str → Option Value) → List (Addr × Obj) → Prop) (s : Shared) (Q : Flow → Shared → Prop) (f : Flow) (s₂ : Shared) : Prop :=
  match f with
  | .ret v => Q (.ret v) s₂
  | .brk => Q .next s₂
  | _ => ∃ h' tk' m' news', s₂ = { s with heap := h', toks := tk' } ∧ Fr h₀ L h' m' ∧ News h₀ L h' ((I, oI) :: news') ∧ (∀ p ∈ news', p.1 ≠ I) ∧ S news' ∧ J m' news'
theorem loop_W {I : Addr} {fp : List Addr} {n : Nat} {P : Nat → Value → Prop} {St : Nat → Heap → Prop} {S : List (Addr × Obj) → Prop} {x : Str} {body : List Stmt} {Q : Flow → Shared → Prop} {m₀ : Str → Option Value} {news₀ : List (Addr × Obj)}
    (W : Walks prog w A I fp [I] n P St) (J : Nat → (Str → Option Value) → List (Addr × Obj) → Prop)
    (hIo : ∀ i h, St i h → ∃ o, h.get? I = some o)
    (hSt : ∀ i h h' o nw, St i h → h.get? I = some o → h'.get? I = some o → (∀ b o, h₀.get? b = some o → h'.get? b = some o) → News h₀ env.locals h' nw → S nw → St i h')
    (hst : St 0 s.heap) (F : Fr h₀ env.locals s.heap m₀) (N : News h₀ env.locals s.heap news₀) (off : ∀ p ∈ news₀, p.1 ≠ I) (hIL : env.locals ≠ I) (hI₀ : h₀.get? I = none) (hLfp : env.locals ∉ fp) (hS : S news₀) (hj : J 0 m₀ news₀)
    (hx : env.kindOf x = some .local) (hp : (env.scope.kind == .class || (env.scope.kind == .module && env.locals != env.globals)) = false)
    (turn : ∀ i v m₁ news₁ oI h tk, i < n → P i v → J i m₁ news₁ → S news₁ → Fr h₀ env.locals h (fun y => if y = x then some v else m₁ y) → News h₀ env.locals h ((I, oI) :: news₁) → (∀ p ∈ news₁, p.1 ≠ I) →
      wpAny (model prog w) A (execs body env) (TurnEnd h₀ env.locals I oI S (J (i + 1)) { s with heap := h, toks := tk } Q) E { s with heap := h, toks := tk })
    (done : ∀ m₁ news₁ h tk, J n m₁ news₁ → Fr h₀ env.locals h m₁ → News h₀ env.locals h news₁ → Q .next { s with heap := h, toks := tk }) :
    itRest prog w A E env x body Q I (n + 1) s := by
  have key : ∀ (k i : Nat) (m₁ : Str → Option Value) (news₁ : List (Addr × Obj)) (h : Heap) (tk : Nat), i + k = n → St i h → Fr h₀ env.locals h m₁ → News h₀ env.locals h news₁ → (∀ p ∈ news₁, p.1 ≠ I) → S news₁ → J i m₁ news₁ →
      itRest prog w A E env x body Q I (k + 1) { s with heap := h, toks := tk } := by
    intro k
    induction k with
    | zero =>
      intro i m₁ news₁ h tk hi st F₁ N₁ off₁ S₁ J₁
      obtain rfl : i = n := by omega
      refine itRest.succ (W.done _ _ _ st fun h' tk' hk => ?_)
      have N₂ : News h₀ env.locals h' news₁ := fun p hp => ⟨hk _ _ (by simpa using off₁ p hp) (N₁ p hp).1, (N₁ p hp).2⟩
      exact done m₁ news₁ h' tk' J₁ ⟨F₁.ns.at' fun o e => hk _ o (by simpa using hIL) e, fun b o e => hk b o (fun hm => by rw [List.mem_singleton.mp hm, hI₀] at e; cases e) (F₁.keep b o e), F₁.above⟩ N₂
    | succ k ih =>
      intro i m₁ news₁ h tk hi st F₁ N₁ off₁ S₁ J₁
      refine itRest.succ (W.item i _ _ _ (by omega) st fun v h' tk' hv st' hk => ?_)
      have F₂ : Fr h₀ env.locals h' m₁ := ⟨F₁.ns.at' fun o e => hk _ o (by simpa using hIL) e, fun b o e => hk b o (fun hm => by rw [List.mem_singleton.mp hm, hI₀] at e; cases e) (F₁.keep b o e), F₁.above⟩
      have N₂ : News h₀ env.locals h' news₁ := fun p hp => ⟨hk _ _ (by simpa using off₁ p hp) (N₁ p hp).1, (N₁ p hp).2⟩
      obtain ⟨oI, heI⟩ := hIo _ _ st'
      show wpAny _ _ (storeName env x v) _ _ _
      refine wpAny_storeName_local hx F₂.ns (fun h₃ hn₃ hs₃ => ?_) hp
      have F₃ : Fr h₀ env.locals h₃ (fun y => if y = x then some v else m₁ y) := F₂.set hn₃ hs₃
      have N₃ : News h₀ env.locals h₃ ((I, oI) :: news₁) := fun p hp => by
        rcases List.mem_cons.mp hp with rfl | hp
        · exact ⟨(hs₃.2 _ hIL.symm).trans heI, hIL.symm, hI₀⟩
        · exact ⟨(hs₃.2 _ (N₂ p hp).2.1).trans (N₂ p hp).1, (N₂ p hp).2⟩
      have st₃ : St (i + 1) h₃ := W.frame _ _ _ st' fun b hb o e => (hs₃.2 b (fun q => hLfp (q ▸ hb))).trans e
      refine wpAny_mono (turn i v m₁ news₁ oI h₃ _ (by omega) hv J₁ S₁ F₃ N₃ off₁) (fun f s₄ h₄ => ?_) fun _ _ z => z
      have fin : (∃ h' tk' m' news', s₄ = { s with heap := h', toks := tk' } ∧ Fr h₀ env.locals h' m' ∧ News h₀ env.locals h' ((I, oI) :: news') ∧ (∀ p ∈ news', p.1 ≠ I) ∧ S news' ∧ J (i + 1) m' news') → itRest prog w A E env x body Q I (k + 1) s₄ := by
        rintro ⟨h₅, tk₅, m₅, news₅, rfl, F₅, N₅, off₅, S₅, J₅⟩
        have N₆ : News h₀ env.locals h₅ news₅ := fun p hp => N₅ p (List.mem_cons_of_mem _ hp)
        exact ih (i + 1) m₅ news₅ h₅ tk₅ (by omega) (hSt _ _ _ _ _ st₃ (N₃ _ List.mem_cons_self).1 (N₅ _ List.mem_cons_self).1 F₅.keep N₆ S₅) F₅ N₆ off₅ S₅ J₅
      cases f with
      | next => exact fin h₄
      | cont => exact fin h₄
      | brk => exact h₄
      | ret v => exact h₄
  exact key n 0 m₀ news₀ s.heap s.toks (by omega) hst F N off hS hj
theorem loop_range {r : Addr} {n : Nat} {b : Int} {t u v : Tok} {x : Str} {body : List Stmt} {Q : Flow → Shared → Prop} {m₀ : Str → Option Value} {news₀ : List (Addr × Obj)} (J : Nat → (Str → Option Value) → List (Addr × Obj) → Prop)
    (hh : A.handled = none) (hr : IsRange s.heap r 0 b 1 t u v) (hb : b = (n : Int)) (hn : n < 1000) (F : Fr h₀ env.locals s.heap m₀) (N : News h₀ env.locals s.heap news₀) (hj : J 0 m₀ news₀)
    (turn : ∀ i t I m₁ news₁ oI h tk, i < n → J i m₁ news₁ → Fr h₀ env.locals h (fun y => if y = x then some (.int (i : Int) t) else m₁ y) → News h₀ env.locals h ((I, oI) :: news₁) → (∀ p ∈ news₁, p.1 ≠ I) →
      wpAny (model prog w) A (execs body env) (TurnEnd h₀ env.locals I oI (fun _ => True) (J (i + 1)) { s with heap := h, toks := tk } Q) E { s with heap := h, toks := tk })
    (done : ∀ m₁ news₁ h tk, J n m₁ news₁ → Fr h₀ env.locals h m₁ → News h₀ env.locals h news₁ → Q .next { s with heap := h, toks := tk })
    (hx : env.kindOf x = some .local := by rfl) (hp : (env.scope.kind == .class || (env.scope.kind == .module && env.locals != env.globals)) = false := by rfl) :
    wpAny (model prog w) A (pyIter (.ref r)) (itAt prog w A E env x body Q) E s := by
  subst hb
  have hsz : Builtin.Range.rangeSize 0 (n : Int) 1 = (n : Int) := by unfold Builtin.Range.rangeSize; simp; omega
  have hsm : Builtin.Range.small 0 (n : Int) 1 = true := by
    unfold Builtin.Range.small
    rw [hsz]
    simp [Builtin.Range.rangeFitsLong]
    omega
  refine wpAny_pyIter_range hr hsm ?_
  rw [hsz]
  refine itAt.intro (n + 1) ?_
  refine loop_W (S := fun _ => True) (LCg.range_walks hh 0 n) J (fun i h st => ⟨_, st⟩) LCg.range_st (by simpa using Heap.get?_push_size _ rfl) (F.keeps fun _ _ e => Heap.get?_push_of_some _ e) (N.grown fun _ _ e => Heap.get?_push_of_some _ e)
    (fun p hp => Nat.ne_of_lt (Heap.lt_size (N p hp).1)) (Nat.ne_of_lt F.ns.lt) (next_is_new F) (by simpa using Nat.ne_of_lt F.ns.lt) trivial hj hx hp ?_ ?_
  · rintro i v m₁ news₁ oI h tk hi ⟨t', rfl⟩ hJ _ F₁ N₁ off
    have e : (0 : Int) + (i : Int) = (i : Int) := by omega
    rw [e] at F₁
    exact turn i t' _ m₁ news₁ oI h tk hi hJ F₁ N₁ off
  · intro m₁ news₁ h tk hJ F₁ N₁
    exact done m₁ news₁ h tk hJ F₁ N₁
theorem loop_list {l : Addr} {its : Array Value} {x : Str} {body : List Stmt} {Q : Flow → Shared → Prop} {m₀ : Str → Option Value} {news₀ : List (Addr × Obj)} (J : Nat → (Str → Option Value) → List (Addr × Obj) → Prop)
    (hh : A.handled = none) (hl : LCg.SrcAt h₀ l its news₀) (F : Fr h₀ env.locals s.heap m₀) (N : News h₀ env.locals s.heap news₀) (hj : J 0 m₀ news₀)
    (turn : ∀ i v I m₁ news₁ oI h tk, its[i]? = some v → J i m₁ news₁ → LCg.SrcAt h₀ l its news₁ → Fr h₀ env.locals h (fun y => if y = x then some v else m₁ y) → News h₀ env.locals h ((I, oI) :: news₁) → (∀ p ∈ news₁, p.1 ≠ I) →
      wpAny (model prog w) A (execs body env) (TurnEnd h₀ env.locals I oI (LCg.SrcAt h₀ l its) (J (i + 1)) { s with heap := h, toks := tk } Q) E { s with heap := h, toks := tk })
    (done : ∀ m₁ news₁ h tk, J its.size m₁ news₁ → Fr h₀ env.locals h m₁ → News h₀ env.locals h news₁ → Q .next { s with heap := h, toks := tk })
    (hx : env.kindOf x = some .local := by rfl) (hp : (env.scope.kind == .class || (env.scope.kind == .module && env.locals != env.globals)) = false := by rfl) :
    wpAny (model prog w) A (pyIter (.ref l)) (itAt prog w A E env x body Q) E s := by
  have hl' := hl.list F.keep N
  have hlt : l < s.heap.objs.size := by obtain ⟨_, e, _⟩ := hl'; exact Heap.lt_size e
  have hlL : env.locals ≠ l := by
    rcases hl with ⟨o, e, _⟩ | ⟨o, hm, _⟩
    · exact fun q => absurd (Heap.lt_size e) (by rw [← q]; exact Nat.not_lt.mpr F.above)
    · exact fun q => (N _ hm).2.1 q.symm
  refine wpAny_pyIter_list hl' ?_
  refine itAt.intro (its.size + 1) ?_
  refine loop_W (S := LCg.SrcAt h₀ l its) (Walks.list hh s.heap.objs.size l (Nat.ne_of_lt hlt) its) J (fun i h st => by obtain ⟨o, e, _⟩ := st.1; exact ⟨o, e⟩) LCg.list_st ⟨⟨_, Heap.get?_push_size _ rfl, rfl, rfl⟩, hl'.push _⟩ (F.keeps fun _ _ e => Heap.get?_push_of_some _ e) (N.grown fun _ _ e => Heap.get?_push_of_some _ e)
    (fun p hp => Nat.ne_of_lt (Heap.lt_size (N p hp).1)) (Nat.ne_of_lt F.ns.lt) (next_is_new F) (by simpa using ⟨Nat.ne_of_lt F.ns.lt, hlL⟩) hl hj hx hp ?_ ?_
  · intro i v m₁ news₁ oI h tk hi hv hJ hS F₁ N₁ off
    exact turn i v _ m₁ news₁ oI h tk hv hJ hS F₁ N₁ off
  · intro m₁ news₁ h tk hJ F₁ N₁
    exact done m₁ news₁ h tk hJ F₁ N₁
end
section
variable {prog : Program} {w : World} {A : Around} {h₀ : Heap} {L : Addr} {m : Str → Option Value} {env : Env} {elt : PySem.Expr} {x : Str} {scope : Scope} {cl : List (Str × Addr)} {s : Shared} {S : List (Addr × Obj) → Prop} {P : Nat → Value → Prop} {Fin : List Value → List (Addr × Obj) → Prop} {news : List (Addr × Obj)}
theorem comp_J {n : Nat} (J : Nat → List Value → List (Addr × Obj) → Prop) (hj : J 0 [] news)
    (turn : ∀ i ys news₁ v I oI C oC D m₂ h tk (E' : Value → Shared → Prop), i < n → J i ys news₁ → P i v → LCg.NsObj oC m₂ → m₂ x = some v → Fr h₀ L h m → News h₀ L h ((I, oI) :: (C, oC) :: (D, LCg.lst ys) :: news₁) → LCg.Off3 I C D news₁ → ((@Ne Nat I C) ∧ (@Ne Nat I D) ∧ (@Ne Nat C D)) →
      wpAny (model prog w) A (eval elt (compEnvC scope cl C env)) (LCg.CompEnd h₀ L m { s with heap := h, toks := tk } I oI C oC D (LCg.lst ys) S (fun y news' => J (i + 1) (ys ++ [y]) news')) E' { s with heap := h, toks := tk })
    (fin : ∀ ys news₁, J n ys news₁ → Fin ys news₁) : LCg.CompRest prog w A h₀ L m env elt x scope cl s S P Fin n 0 [] news := by
  have key : ∀ (k i : Nat) (ys : List Value) (nw : List (Addr × Obj)), i + k = n → J i ys nw → LCg.CompRest prog w A h₀ L m env elt x scope cl s S P Fin k i ys nw := by
    intro k
    induction k with
    | zero =>
      intro i ys nw hi hJ
      obtain rfl : i = n := by omega
      exact LCg.CompRest.zero (fin ys nw hJ)
    | succ k ih =>
      intro i ys nw hi hJ
      refine LCg.CompRest.succ ?_
      intro v I oI C oC D m₂ h tk E' hv hC hx F N off ne
      refine wpAny_mono (turn i ys nw v I oI C oC D m₂ h tk E' (by omega) hJ hv hC hx F N off ne) (fun y s₂ hq => ?_) fun _ _ e => e
      obtain ⟨h', tk', nw', e, F', N', off', hS, hJ'⟩ := hq
      exact ⟨h', tk', nw', e, F', N', off', hS, ih (i + 1) _ nw' (by omega) hJ'⟩
  exact key n 0 [] news (by omega) hj
theorem mem_s1 {α : Type} {p a : α} {l r : List α} : ∀ q ∈ p :: (l ++ (a :: r)), q ∈ a :: p :: (l ++ r) := by
  ((repeat' (first | refine List.forall_mem_cons.mpr ⟨?_, ?_⟩ | refine List.forall_mem_append.mpr ⟨?_, ?_⟩)) <;> first | ((repeat (first | exact List.mem_cons_self | refine List.mem_cons_of_mem _ ?_ | refine List.mem_append_right _ ?_)); done) | exact List.forall_mem_nil _ | (intro q hq; (repeat (first | exact hq | exact List.mem_append_left _ hq | refine List.mem_cons_of_mem _ ?_ | refine List.mem_append_right _ ?_)); done))
theorem mem_b1 {α : Type} {p a : α} {l r : List α} : ∀ q ∈ a :: p :: (l ++ r), q ∈ p :: (l ++ (a :: r)) := by
  ((repeat' (first | refine List.forall_mem_cons.mpr ⟨?_, ?_⟩ | refine List.forall_mem_append.mpr ⟨?_, ?_⟩)) <;> first | ((repeat (first | exact List.mem_cons_self | refine List.mem_cons_of_mem _ ?_ | refine List.mem_append_right _ ?_)); done) | exact List.forall_mem_nil _ | (intro q hq; (repeat (first | exact hq | exact List.mem_append_left _ hq | refine List.mem_cons_of_mem _ ?_ | refine List.mem_append_right _ ?_)); done))
theorem mem_s3 {α : Type} {p a b c : α} {l r : List α} : ∀ q ∈ p :: (l ++ (a :: b :: c :: r)), q ∈ a :: b :: c :: p :: (l ++ r) := by
  ((repeat' (first | refine List.forall_mem_cons.mpr ⟨?_, ?_⟩ | refine List.forall_mem_append.mpr ⟨?_, ?_⟩)) <;> first | ((repeat (first | exact List.mem_cons_self | refine List.mem_cons_of_mem _ ?_ | refine List.mem_append_right _ ?_)); done) | exact List.forall_mem_nil _ | (intro q hq; (repeat (first | exact hq | exact List.mem_append_left _ hq | refine List.mem_cons_of_mem _ ?_ | refine List.mem_append_right _ ?_)); done))
theorem mem_b3 {α : Type} {p a b c : α} {l r : List α} : ∀ q ∈ a :: b :: c :: p :: (l ++ r), q ∈ p :: (l ++ (a :: b :: c :: r)) := by
  ((repeat' (first | refine List.forall_mem_cons.mpr ⟨?_, ?_⟩ | refine List.forall_mem_append.mpr ⟨?_, ?_⟩)) <;> first | ((repeat (first | exact List.mem_cons_self | refine List.mem_cons_of_mem _ ?_ | refine List.mem_append_right _ ?_)); done) | exact List.forall_mem_nil _ | (intro q hq; (repeat (first | exact hq | exact List.mem_append_left _ hq | refine List.mem_cons_of_mem _ ?_ | refine List.mem_append_right _ ?_)); done))
end
section
variable {prog : Program} {w : World} {A : Around} {h₀ : Heap} {L : Addr} {m : Str → Option Value} {env : Env} {ct elt : PySem.Expr} {x : Str} {scope : Scope} {cl : List (Str × Addr)} {s : Shared} {S : List (Addr × Obj) → Prop} {P : Nat → Value → Prop} {Fin : List Value → List (Addr × Obj) → Prop} {news : List (Addr × Obj)}
theorem comp_JT {n : Nat} (J : Nat → List Value → List (Addr × Obj) → Prop) (hj : J 0 [] news)
    (turn : ∀ i ys news₁ v I oI C oC D m₂ h tk (E' : Value → Shared → Prop), i < n → J i ys news₁ → P i v → LCg.NsObj oC m₂ → m₂ x = some v → Fr h₀ L h m → News h₀ L h ((I, oI) :: (C, oC) :: (D, LCg.lst ys) :: news₁) → LCg.Off3 I C D news₁ → ((@Ne Nat I C) ∧ (@Ne Nat I D) ∧ (@Ne Nat C D)) →
      wpAny (model prog w) A (isTrue ct (compEnvC scope cl C env) (eval ct (compEnvC scope cl C env))) (fun ok s' => if ok = true then
        wpAny (model prog w) A (eval elt (compEnvC scope cl C env)) (LCg.CompEnd h₀ L m { s with heap := h, toks := tk } I oI C oC D (LCg.lst ys) S (fun y news' => J (i + 1) (ys ++ [y]) news')) E' s'
        else LCg.CompEnd h₀ L m { s with heap := h, toks := tk } I oI C oC D (LCg.lst ys) S (fun _ news' => J (i + 1) ys news') Value.none s') E' { s with heap := h, toks := tk })
    (fin : ∀ ys news₁, J n ys news₁ → Fin ys news₁) : LCt.CompRestT prog w A h₀ L m env ct elt x scope cl s S P Fin n 0 [] news := by
  have key : ∀ (k i : Nat) (ys : List Value) (nw : List (Addr × Obj)), i + k = n → J i ys nw → LCt.CompRestT prog w A h₀ L m env ct elt x scope cl s S P Fin k i ys nw := by
    intro k
    induction k with
    | zero =>
      intro i ys nw hi hJ
      obtain rfl : i = n := by omega
      exact LCt.CompRestT.zero (fin ys nw hJ)
    | succ k ih =>
      intro i ys nw hi hJ
      refine LCt.CompRestT.succ ?_
      intro v I oI C oC D m₂ h tk E' hv hC hx F N off ne
      refine wpAny_mono (turn i ys nw v I oI C oC D m₂ h tk E' (by omega) hJ hv hC hx F N off ne) (fun ok s₁ ho => ?_) fun _ _ e => e
      cases ok with
      | true =>
        refine wpAny_mono ho (fun y s₂ hq => ?_) fun _ _ e => e
        obtain ⟨h', tk', nw', e, F', N', off', hS, hJ'⟩ := hq
        exact ⟨h', tk', nw', e, F', N', off', hS, ih (i + 1) _ nw' (by omega) hJ'⟩
      | false =>
        obtain ⟨h', tk', nw', e, F', N', off', hS, hJ'⟩ := ho
        exact ⟨h', tk', nw', e, F', N', off', hS, ih (i + 1) _ nw' (by omega) hJ'⟩
  exact key n 0 [] news (by omega) hj
end
theorem rng_size (n : Nat) : Builtin.Range.rangeSize 0 (n : Int) 1 = (n : Int) := by unfold Builtin.Range.rangeSize; simp; omega
theorem rng_small (n : Nat) (hn : n < 1000) : Builtin.Range.small 0 (n : Int) 1 = true := by
  unfold Builtin.Range.small
  rw [rng_size]
  simp [Builtin.Range.rangeFitsLong]
  omega
theorem keys_ne {I : Addr} : ∀ {l l' : List (Addr × Obj)}, (∀ p ∈ l, p.1 ≠ I) → l.map (·.1) = l'.map (·.1) → ∀ p ∈ l', p.1 ≠ I
  | [], [], _, _ => fun p hp => by cases hp
  | [], _ :: _, _, e => by cases e
  | _ :: _, [], _, e => by cases e
  | a :: l, b :: l', h, e => by
    obtain ⟨e1, e2⟩ := List.cons.inj e
    have e1' : a.1 = b.1 := e1
    intro p hp
    rcases List.mem_cons.mp hp with rfl | hp
    · rw [← e1']; exact h a List.mem_cons_self
    · exact keys_ne (fun q hq => h q (List.mem_cons_of_mem _ hq)) e2 p hp
theorem wp_name {α : Type} {M : Model} {A : Around} {t : Sem α} {Q : α → Shared → Prop} {E : Value → Shared → Prop} {s : Shared} (h : ∀ Q' : α → Shared → Prop, (∀ a s', Q a s' → Q' a s') → wpAny M A t Q' E s) : wpAny M A t Q E s :=
  h Q fun _ _ z => z
end
section
theorem seed9 : True := by
  w_top off
  exact True.intro
section
theorem slot_wd_get : Slot "wrapper_descriptor" "__get__" "wrapper_descriptor.__get__" :=
  .of (owner := "wrapper_descriptor") (n := "__get__") (by rw [typeLookup_type, builtinLookup_eq_fast]; kernel_rfl) (by decide +kernel) (by decide +kernel) (by decide +kernel)
    (by first | exact .inl (by decide +kernel) | exact .inr (by decide +kernel)) (by rw [isSubtype_type]; kernel_rfl)
theorem entry_wd_get : entryFor table "wrapper_descriptor.__get__" = some Builtin.«wrapper_descriptor.__get__» := entryFor_of_tree (by kernel_rfl)
theorem args_wd_get (a b c : Value) : argsOk "wrapper_descriptor.__get__" ⟨[a, b, c], []⟩ := by unfold argsOk; kernel_rfl
theorem look_wd_set : typeLookup (.type "wrapper_descriptor") "__set__" = pure none := by rw [typeLookup_type, builtinLookup_eq_fast]; kernel_rfl
theorem look_wd_del : typeLookup (.type "wrapper_descriptor") "__delete__" = pure none := by rw [typeLookup_type, builtinLookup_eq_fast]; kernel_rfl
theorem look_str_getitem : typeLookup (.type "str") "__getitem__" = pure (some (.builtin "str.__getitem__")) := by rw [typeLookup_type, builtinLookup_eq_fast]; kernel_rfl
theorem type_str_getitem : typeOf (.builtin "str.__getitem__") = pure (.type "wrapper_descriptor") := by kernel_rfl
theorem owner_str_getitem : (".".intercalate ("str.__getitem__".cutAt '.').dropLast) = "str" := by
  have e0 : "str.__getitem__".cutAt '.' = ["str", "__getitem__"] := by first | rfl | decide +kernel
  rw [e0]; decide +kernel
theorem sub_str_str : isSubtype (.type "str") (.type (".".intercalate ("str.__getitem__".cutAt '.').dropLast)) = pure true := by
  rw [owner_str_getitem, isSubtype_type]; kernel_rfl
theorem entry_hasattr : entryFor table "hasattr" = some Builtin.«hasattr» := entryFor_of_tree (by kernel_rfl)
theorem args_hasattr (a b : Value) : argsOk "hasattr" ⟨[a, b], []⟩ := by unfold argsOk; kernel_rfl
variable {prog : Program} {w : World} {A : Around} {E : Value → Shared → Prop} {h : Heap} {g : Array GenState} {d : Drawn} {t : Nat} {os : OsState} {x : Str} {u : Tok}
abbrev mwObj (x : Str) (u : Tok) : Obj := { cls := .type "method-wrapper", data := .fields #[.builtin "str.__getitem__", .str x u] }
theorem gi_get {R : Result → Shared → Prop} (hq : R (.ok (.ret (.ref h.objs.size))) ⟨h.push (mwObj x u), g, d, t, os⟩) :
    codeAny (model prog w) A (.call (.builtin "wrapper_descriptor.__get__") ⟨[.builtin "str.__getitem__", .str x u, .type "str"], []⟩) R ⟨h, g, d, t, os⟩ := by
  have hT : (⟨h, g, d, t, os⟩ : Shared).TypeIs (.str x u) "str" := rfl
  have hT5 : (⟨h, g, d, t, os⟩ : Shared).TypeIs (.builtin "str.__getitem__") "wrapper_descriptor" := type_str_getitem
  have f8 := sub_str_str
  refine codeAny_call_builtin slot_wd_get.plain entry_wd_get (slot_wd_get.check _ _ _ _ _ _ _ _ hT5 (args_wd_get _ _ _) ?_)
  repeat (any_goals (first | assumption | wp_step))
theorem gi_entry {tk : Tok} {Q : Fin → Shared → Prop} (hq : Q (.done (.ret (.ref h.objs.size))) ⟨h.push (mwObj x u), g, d, t, os⟩) :
    wpAny (model prog w) A (Builtin.«object.__getattribute__» ⟨[.str x u, .str "__getitem__" tk], []⟩) Q E ⟨h, g, d, t, os⟩ := by
  have hT : (⟨h, g, d, t, os⟩ : Shared).TypeIs (.str x u) "str" := rfl
  have hT5 : (⟨h, g, d, t, os⟩ : Shared).TypeIs (.builtin "str.__getitem__") "wrapper_descriptor" := type_str_getitem
  have f4 := look_str_getitem
  have f5 := type_str_getitem
  have f6 := slot_wd_get.lookup
  have f7 := look_wd_set
  have f7' := look_wd_del
  repeat (any_goals (first | assumption | wp_step))
  refine gi_get ?_
  repeat (any_goals (first | assumption | wp_step))
theorem gi_call {tk : Tok} {R : Result → Shared → Prop} (hq : R (.ok (.ret (.ref h.objs.size))) ⟨h.push (mwObj x u), g, d, t, os⟩) :
    codeAny (model prog w) A (.call (.builtin "object.__getattribute__") ⟨[.str x u, .str "__getitem__" tk], []⟩) R ⟨h, g, d, t, os⟩ :=
  codeAny_call_builtin F.slot_str_getattribute.plain F.entry_object_getattribute (F.slot_str_getattribute.check _ _ _ _ _ _ _ _ (show (⟨h, g, d, t, os⟩ : Shared).TypeIs (.str x u) "str" from rfl) (F.args_object_getattribute_2 _ _) (gi_entry hq))
theorem gi_by {tk : Tok} {Q : Value → Shared → Prop} (hq : Q (.ref h.objs.size) ⟨h.push (mwObj x u), g, d, t, os⟩) : wpAny (model prog w) A (getAttrBy (.str x u) (.str "__getitem__" tk) false) Q E ⟨h, g, d, t, os⟩ := by
  have hT : (⟨h, g, d, t, os⟩ : Shared).TypeIs (.str x u) "str" := rfl
  have f2 := F.slot_str_getattribute.lookup
  have f3 := F.slot_str_getattribute.bind (.str x u)
  repeat (any_goals (first | assumption | wp_step))
  refine gi_call ?_
  repeat (any_goals (first | assumption | wp_step))
theorem call_hasattr {tk : Tok} {Q : Value → Shared → Prop} (hq : Q (.bool true) ⟨h.push (mwObj x u), g, d, t, os⟩) : wpAny (model prog w) A (call (.builtin "hasattr") [.str x u, .str "__getitem__" tk]) Q E ⟨h, g, d, t, os⟩ := by
  refine call_function_entry (by decide +kernel) (by decide +kernel) entry_hasattr (args_hasattr _ _) ?_
  unfold Builtin.«hasattr»
  have hT : (⟨h, g, d, t, os⟩ : Shared).TypeIs (.str x u) "str" := rfl
  have f4 := look_str_getitem
  have f2 := F.slot_str_getattribute.lookup
  refine wpAny_bind (m := someArgs "hasattr" 2 2 _) (wpAny_of_eq (a := [Value.str x u, .str "__getitem__" tk]) (by first | rfl | kernel_rfl!) ?_)
  dsimp only
  unfold getAttrBy?
  repeat (any_goals (first | assumption | with_reducible apply gi_by | wp_step))
  exact ⟨_, rfl, hq⟩
theorem hasattr_N {A : Around} {E : Value → Shared → Prop} {s : Shared} {h₀ : Heap} {L : Addr} {m : Str → Option Value} {news : List (Addr × Obj)} {x : Str} {u tk : Tok} {Q : Value → Shared → Prop} (F : Fr h₀ L s.heap m) (N : News h₀ L s.heap news)
    (h : ∀ h', Fr h₀ L h' m → News h₀ L h' news → Q (.bool true) { s with heap := h' }) : wpAny (model prog w) A (call (.builtin "hasattr") [.str x u, .str (Str.ofString "__getitem__") tk]) Q E s := by
  obtain ⟨hp, g, d, t, os⟩ := s
  exact call_hasattr (h _ (F.push _) (N.grown fun _ _ e => Heap.get?_push_of_some _ e))
end
end
section
local macro_rules | `(tactic| k_all) => `(tactic| assumption)
local macro_rules | `(tactic| k_room) => `(tactic| ktr_room)
local macro_rules | `(tactic| k_units) => `(tactic| ktr_units)
local macro_rules | `(tactic| k_ne) => `(tactic| (refine neN ?_; (try dsimp only); first | assumption | exact Ne.symm (by assumption) | exact Ne.symm (LCg.Off3.mem (by assumption) (_, _) (by k_mem)).1 | exact Ne.symm (LCg.Off3.mem (by assumption) (_, _) (by k_mem)).2.1 | exact Ne.symm (LCg.Off3.mem (by assumption) (_, _) (by k_mem)).2.2 | exact Ne.symm (off1_mem (by assumption) (_, _) (by k_mem)) | exact off1_mem (by assumption) (_, _) (by k_mem) | omega))
local macro_rules | `(tactic| walk_at "call builtin:iter") => `(tactic| (k_here; (with_reducible show wpAny _ _ (call (Value.builtin "iter") [Value.ref _, Value.str _ _]) _ _ _); k_dflt (refine' iter2_N ?F ?N ?q ?_; (case F => k_asm); (case N => k_asm); (case q => k_mem)); intro I' h' F' N' l1; (try k_lt l1)))
local macro_rules | `(tactic| walk_at "ite") => `(tactic| first | refine ite_neg (by assumption) ?_ | refine ite_pos (by assumption) ?_)
local macro_rules | `(tactic| walk_at "compareOp In str str") => `(tactic| (k_here; (with_reducible show wpAny _ _ (compareOp CmpOp.In (Value.str (Str.mk _) _) (Value.str _ _)) _ _ _); refine in_one ?_))
section
theorem seed3 : True := by
  w_top off
  exact True.intro
section
variable {w : World} {dp un : Nat} {gd : Option (List Code)} {cn : Str} {cs : Scope} {a : Addr} {ccd : Value} {cl : List (Str × Addr)} {outer : List Env} {A₀ : Around} {base h₀ : Heap} {L : Addr} {m : Str → Option Value} {rest : List (Addr × Obj)} {s : Shared}
    {Q E : Value → Shared → Prop} {Q2 : Flow → Shared → Prop} {p : Program} {loose : List Str} {mean : ExcName → Option Value} {mg mb : Str → Option Value}
theorem str1_eq {c : Nat} (h : ((⟨#[c]⟩ : Str) == Str.ofString "\n") = true) : c = 10 := by
  have e := eq_of_beq h
  rw [show Str.ofString "\n" = ⟨#[10]⟩ by decide +kernel] at e
  simpa using e
theorem str1_ne {c : Nat} (h : ((⟨#[c]⟩ : Str) == Str.ofString "\n") = false) : c ≠ 10 := by
  rintro rfl
  exact absurd h (by decide +kernel)
theorem c_read {e : Lx} (ok : e.Ok) {ln : Int} {t1 : Tok} {c : Nat} {ct : Tok} {ps : List Value} {nf : Nat}
    (hdp : dp < 400) (hun : un < 200)
    (B : Below A₀ base outer h₀) (F : Fr h₀ L s.heap m) (X : (hd.heap_39 w.params).In h₀) (N : News h₀ L s.heap (lexL e ln t1 (chv (c, ct) :: ps) nf ++ rest)) (T : Top p loose mean mg mb h₀) (hk : cs.kind = .function) (C : CodeHd base 125 121)
    (hps : ps.length < 4000) (e8 : ∀ p ∈ rest, p.1 ≠ e.lf) (g8 : ∀ p ∈ rest, p.1 ≠ e.dx)
    (h : ∀ h' tk' t' t1', Fr h₀ L h' m → News h₀ L h' (lexL e (ln + nlOf c) t1' ps (nf + 1) ++ rest) → Q (.str ⟨#[c]⟩ t') { s with heap := h', toks := tk' }) :
    codeAny (model Challenge.rw_pg0080_01.row.prog w) (ktrTop dp un gd cn cs L a ccd cl outer) (.call (.ref 35) ⟨[.ref e.x], []⟩) (fun r s' => match r with | .ok (.ret v) => Q v s' | .ok _ => False | .error e => E e s') s := by
  obtain ⟨x, dx, st, ds, pb, pb2, lf, lam, cc, cel, H, H2, k, k2, l2, t2, ws, ws2, qual, pm, ctv, oc, ol, vs, tq⟩ := e
  obtain ⟨hoc, hvs, hol, ord⟩ := ok
  obtain ⟨nn, hsz⟩ : ∃ nn, (Value.str ⟨#[c]⟩ ct :: ps).toArray.size = nn := ⟨_, rfl⟩
  have hn1 : 1 ≤ nn := by rw [← hsz]; simp
  have hn2 : nn < 5000 := by rw [← hsz]; simp; omega
  have hps' : ps.length < 5000 := by omega
  dsimp only [lexL, lamP, chv, List.cons_append, List.nil_append] at *
  k_dflt ktr_enter
  iterate 21 (first | (k_unfold; (try dsimp only)) | (k_end; wrow_close) | walk1 | (dsimp only; walk1) | (leave1; walk_say "STEP leave1"; try dsimp only) | fail "no step")
  k_dflt (refine LCg.ListComp_U (F₀ := by k_asm) (by with_unfolding_all rfl) (by decide) (by rfl) (by decide) (by rfl) ?_)
  iterate 19 (first | (k_unfold; (try dsimp only)) | (k_end; wrow_close) | walk1 | (dsimp only; walk1) | (leave1; walk_say "STEP leave1"; try dsimp only) | fail "no step")
  simp only [show ¬ ((nn : Int) < 1) by omega, if_false] at *
  iterate 2 (first | (k_unfold; (try dsimp only)) | (k_end; wrow_close) | walk1 | (dsimp only; walk1) | (leave1; walk_say "STEP leave1"; try dsimp only) | fail "no step")
  k_dflt (refine LCg.CompSrc.range (n := 1) (by rfl) (by k_asm) (by k_asm) (by assumption) (by rfl) (by rfl) (by exact Nat.le_of_ble_eq_true rfl) ?_; intro g')
  k_dflt (refine LCg.CompRest.succ ?_; intro v' I' oI' C' oC' D' m' h' tk' E' hv' hC' hx' F' N' off' ne')
  obtain ⟨ne1, ne2, ne3⟩ := ne'
  iterate 8 (first | (k_unfold; (try dsimp only)) | (k_end; wrow_close) | walk1 | (dsimp only; walk1) | (leave1; walk_say "STEP leave1"; try dsimp only) | fail "no step")
  k_dflt (refine' pop0 ?F ?N ?U ?z ?_; (case F => k_asm); (case N => k_asm); (case U => k_upd); (case z => (first | assumption | omega)))
  intro h' F' N'
  k_dflt (refine LCg.CompEnd.intro (by k_asm) (by k_asm) _ (fun _ hp => hp) (off3_keys (by assumption) (by rfl)) (by exact True.intro) ?_)
  iterate 1 (first | (k_unfold; (try dsimp only)) | (k_end; wrow_close) | walk1 | (dsimp only; walk1) | (leave1; walk_say "STEP leave1"; try dsimp only) | fail "no step")
  unfold LCg.FinE
  intro D' h' tk' F' N' o1'
  (try simp only [List.nil_append, List.cons_append] at N')
  (try dsimp only)
  iterate 1 (first | (k_unfold; (try dsimp only)) | (k_end; wrow_close) | walk1 | (dsimp only; walk1) | (leave1; walk_say "STEP leave1"; try dsimp only) | fail "no step")
  k_dflt (refine join_listW (by is_list) (by kct_strs) (by decide +kernel) (by exact Nat.le_of_ble_eq_true rfl) ?_)
  intro _ _
  (try rw [join1])
  k_steps
  · rename (_ == _) = true => hc
    have hcc := str1_eq hc
    subst hcc
    rename News _ _ _ _ => N9
    rw [show ln + nlOf 10 = ln + 1 from rfl] at h
    exact h _ _ _ _ (by k_asm) (news_tail N9)
  · have hcc := str1_ne (by assumption)
    rename News _ _ _ _ => N9
    rw [show ln + nlOf c = ln by unfold nlOf; rw [if_neg hcc]; omega] at h
    exact h _ _ _ _ (by k_asm) (news_tail N9)
theorem c_read0 {e : Lx} (ok : e.Ok) {ln : Int} {t1 : Tok} {nf : Nat}
    (hdp : dp < 400) (hun : un < 200)
    (B : Below A₀ base outer h₀) (F : Fr h₀ L s.heap m) (X : (hd.heap_39 w.params).In h₀) (N : News h₀ L s.heap (lexL e ln t1 [] nf ++ rest)) (T : Top p loose mean mg mb h₀) (hk : cs.kind = .function) (C : CodeHd base 125 121)
    (h : ∀ h' tk' t', Fr h₀ L h' m → News h₀ L h' (lexL e ln t1 [] nf ++ rest) → Q (.str (Str.ofString "") t') { s with heap := h', toks := tk' }) :
    codeAny (model Challenge.rw_pg0080_01.row.prog w) (ktrTop dp un gd cn cs L a ccd cl outer) (.call (.ref 35) ⟨[.ref e.x], []⟩) (fun r s' => match r with | .ok (.ret v) => Q v s' | .ok _ => False | .error e => E e s') s := by
  obtain ⟨x, dx, st, ds, pb, pb2, lf, lam, cc, cel, H, H2, k, k2, l2, t2, ws, ws2, qual, pm, ctv, oc, ol, vs, tq⟩ := e
  obtain ⟨hoc, hvs, hol, ord⟩ := ok
  have hsz : ([] : List Value).toArray.size = 0 := rfl
  dsimp only [lexL, lamP, chv, List.cons_append, List.nil_append] at *
  k_dflt ktr_enter
  iterate 21 (first | (k_unfold; (try dsimp only)) | (k_end; wrow_close) | walk1 | (dsimp only; walk1) | (leave1; walk_say "STEP leave1"; try dsimp only) | fail "no step")
  k_dflt (refine LCg.ListComp_U (F₀ := by k_asm) (by with_unfolding_all rfl) (by decide) (by rfl) (by decide) (by rfl) ?_)
  iterate 21 (first | (k_unfold; (try dsimp only)) | (k_end; wrow_close) | walk1 | (dsimp only; walk1) | (leave1; walk_say "STEP leave1"; try dsimp only) | fail "no step")
  k_dflt (refine LCg.CompSrc.range (n := 0) (by rfl) (by k_asm) (by k_asm) (by assumption) (by rfl) (by rfl) (by exact Nat.le_of_ble_eq_true rfl) ?_; intro g')
  k_dflt (refine LCg.CompRest.zero ?_)
  unfold LCg.FinE
  intro D' h' tk' F' N' o1'
  (try simp only [List.nil_append, List.cons_append] at N')
  (try dsimp only)
  iterate 1 (first | (k_unfold; (try dsimp only)) | (k_end; wrow_close) | walk1 | (dsimp only; walk1) | (leave1; walk_say "STEP leave1"; try dsimp only) | fail "no step")
  k_dflt (refine join_listW (by is_list) (by kct_strs) (by decide +kernel) (by exact Nat.le_of_ble_eq_true rfl) ?_)
  intro _ _
  (try rw [join1])
  k_steps
  rename News _ _ _ _ => N9
  exact h _ _ _ (by k_asm) (news_tail N9)
end
end
section
theorem seed4 : True := by
  w_top off
  exact True.intro
section
variable {w : World} {dp un : Nat} {gd : Option (List Code)} {cn : Str} {cs : Scope} {a : Addr} {ccd : Value} {cl : List (Str × Addr)} {outer : List Env} {A₀ : Around} {base h₀ : Heap} {L : Addr} {m : Str → Option Value} {rest : List (Addr × Obj)} {s : Shared}
    {Q E : Value → Shared → Prop} {Q2 : Flow → Shared → Prop} {p : Program} {loose : List Str} {mean : ExcName → Option Value} {mg mb : Str → Option Value}
theorem c_push {e : Lx} (ok : e.Ok) {ln : Int} {t1 : Tok} {cv : List Value} {nf np : Nat} {vs : List Value} {v : Value}
    (hdp : dp < 400) (hun : un < 200)
    (B : Below A₀ base outer h₀) (F : Fr h₀ L s.heap m) (X : (hd.heap_39 w.params).In h₀) (N : News h₀ L s.heap ((e.pb, W.listOf vs.toArray np) :: (lexL e ln t1 cv nf ++ rest))) (T : Top p loose mean mg mb h₀) (hk : cs.kind = .function)
    (e8 : ∀ p ∈ rest, p.1 ≠ e.pb) (hz : vs.length < 100)
    (h : ∀ h' tk' n', Fr h₀ L h' m → News h₀ L h' ((e.pb, W.listOf (vs ++ [v]).toArray n') :: (lexL e ln t1 cv nf ++ rest)) → Q .none { s with heap := h', toks := tk' }) :
    codeAny (model Challenge.rw_pg0080_01.row.prog w) (ktrTop dp un gd cn cs L a ccd cl outer) (.call (.ref 49) ⟨[.ref e.x, v], []⟩) (fun r s' => match r with | .ok (.ret v) => Q v s' | .ok _ => False | .error e => E e s') s := by
  obtain ⟨x, dx, st, ds, pb, pb2, lf, lam, cc, cel, H, H2, k, k2, l2, t2, ws, ws2, qual, pm, ctv, oc, ol, vs9, tq⟩ := e
  obtain ⟨hoc, hvs, hol, ord⟩ := ok
  have hzz : vs.toArray.size ≤ sizeLine := by rw [PySem.sizeLine_eq]; simp; omega
  dsimp only [lexL, lamP, chv, List.cons_append, List.nil_append] at *
  k_dflt ktr_enter
  k_steps
  rename News _ _ _ _ => N9
  simp only [List.push_toArray] at N9
  exact h _ _ _ (by k_asm) N9
theorem c_get_pb {e : Lx} (ok : e.Ok) {ln : Int} {t1 : Tok} {cv : List Value} {nf np : Nat} {vs : List Value} {v : Value}
    (hdp : dp < 400) (hun : un < 200)
    (B : Below A₀ base outer h₀) (F : Fr h₀ L s.heap m) (X : (hd.heap_39 w.params).In h₀) (N : News h₀ L s.heap ((e.pb, W.listOf (v :: vs).toArray np) :: (lexL e ln t1 cv nf ++ rest))) (T : Top p loose mean mg mb h₀) (hk : cs.kind = .function)
    (e8 : ∀ p ∈ rest, p.1 ≠ e.pb) (hz : vs.length < 100)
    (h : ∀ h' tk' n', Fr h₀ L h' m → News h₀ L h' ((e.pb, W.listOf vs.toArray n') :: (lexL e ln t1 cv nf ++ rest)) → Q v { s with heap := h', toks := tk' }) :
    codeAny (model Challenge.rw_pg0080_01.row.prog w) (ktrTop dp un gd cn cs L a ccd cl outer) (.call (.ref 42) ⟨[.ref e.x], []⟩) (fun r s' => match r with | .ok (.ret v) => Q v s' | .ok _ => False | .error e => E e s') s := by
  obtain ⟨x, dx, st, ds, pb, pb2, lf, lam, cc, cel, H, H2, k, k2, l2, t2, ws, ws2, qual, pm, ctv, oc, ol, vs9, tq⟩ := e
  obtain ⟨hoc, hvs, hol, ord⟩ := ok
  have hz' : vs.length < 5000 := by omega
  dsimp only [lexL, lamP, chv, List.cons_append, List.nil_append] at *
  k_dflt ktr_enter
  iterate 21 (first | (k_unfold; (try dsimp only)) | (k_end; wrow_close) | walk1 | (dsimp only; walk1) | (leave1; walk_say "STEP leave1"; try dsimp only) | fail "no step")
  k_dflt (refine' pop0 ?F ?N ?U ?z ?_; (case F => k_asm); (case N => k_asm); (case U => k_upd); (case z => (first | assumption | omega)))
  intro h' F' N'
  k_steps
  rename News _ _ _ _ => N9
  exact h _ _ _ (by k_asm) N9
end
end
section
local macro_rules | `(tactic| walk_at "call ref") => `(tactic| (k_here; (with_reducible show wpAny _ _ (call (Value.ref 35) _) _ _ _); k_dflt (refine wpAny_call (c_read (by assumption) (by omega) (by omega) (by k_asm) (by k_asm) (by k_asm) (by k_asm) (by k_asm) rfl (by assumption) (by first | omega | (simp at *; omega)) (by assumption) (by assumption) ?_)); intro h' tk' t' t1' F' N'))
section
theorem seed5 : True := by
  w_top off
  exact True.intro
section
variable {w : World} {dp un : Nat} {gd : Option (List Code)} {cn : Str} {cs : Scope} {a : Addr} {ccd : Value} {cl : List (Str × Addr)} {outer : List Env} {A₀ : Around} {base h₀ : Heap} {L : Addr} {m : Str → Option Value} {rest : List (Addr × Obj)} {s : Shared}
    {Q E : Value → Shared → Prop} {Q2 : Flow → Shared → Prop} {p : Program} {loose : List Str} {mean : ExcName → Option Value} {mg mb : Str → Option Value}
theorem fn35 (P : Params) : ∃ of fd, (hd.heap_39 P).lookup 35 = some of ∧ of.data = .func fd := ⟨_, _, by with_unfolding_all rfl, by with_unfolding_all rfl⟩
theorem next_char {e : Lx} (ok : e.Ok) {ln : Int} {t1 : Tok} {c : Nat} {ct : Tok} {ps : List Value} {nf : Nat} {it q : Addr} {ts : Tok} {Qo : Option Value → Shared → Prop}
    (hdp : dp < 400) (hun : un < 199)
    (B : Below A₀ base outer h₀) (F : Fr h₀ L s.heap m) (X : (hd.heap_39 w.params).In h₀) (N : News h₀ L s.heap (lexL e ln t1 (chv (c, ct) :: ps) nf ++ rest)) (T : Top p loose mean mg mb h₀) (hk : cs.kind = .function) (C : CodeHd base 125 121)
    (hps : ps.length < 4000) (e8 : ∀ p ∈ rest, p.1 ≠ e.lf) (g8 : ∀ p ∈ rest, p.1 ≠ e.dx)
    (hit : (it, ciObj q (Str.ofString "") ts) ∈ rest) (hq : (q, methodObj (.ref 35) (.ref e.x)) ∈ rest)
    (h : ∀ h' tk' t' t1', Fr h₀ L h' m → News h₀ L h' (lexL e (ln + nlOf c) t1' ps (nf + 1) ++ rest) → Qo (some (.str ⟨#[c]⟩ t')) { s with heap := h', toks := tk' }) :
    wpAny (model Challenge.rw_pg0080_01.row.prog w) (ktrTop dp un gd cn cs L a ccd cl outer) (pyNext (.ref it)) Qo E s := by
  obtain ⟨of, fd, h35, hfd⟩ := fn35 w.params
  refine ci_next rfl (N _ (List.mem_append_right _ hit)).1 (N _ (List.mem_append_right _ hq)).1 ((X.keeps F.keep) _ _ h35) hfd ?_
  refine codeAny_mono (c_read (Q := fun v s' => ∃ y u, v = .str y u ∧ s'.heap.get? it = some (ciObj q (Str.ofString "") ts) ∧ s'.heap.get? q = some (methodObj (.ref 35) (.ref e.x)) ∧ s'.heap.get? 35 = some of ∧
          (y ≠ Str.ofString "" → Qo (some (.str y u)) s') ∧ (y = Str.ofString "" → ∀ h', Heap.ExtBut it s'.heap h' → Qo none { s' with heap := h' })) (E := fun _ _ => False) (un := un + 1) ok hdp (by omega) B F X N T hk C hps e8 g8 ?_) ?_
  · intro h' tk' t' t1' F' N'
    refine ⟨_, _, rfl, (N' _ (List.mem_append_right _ hit)).1, (N' _ (List.mem_append_right _ hq)).1, (X.keeps F'.keep) _ _ h35, fun _ => h _ _ _ _ F' N', fun hx => ?_⟩
    exact absurd hx (by rw [show Str.ofString "" = ⟨#[]⟩ by decide +kernel]; simp)
  · intro r s' hr
    exact hr
theorem next_end {e : Lx} (ok : e.Ok) {ln : Int} {t1 : Tok} {nf : Nat} {it q : Addr} {ts : Tok} {Qo : Option Value → Shared → Prop} {rest' : List (Addr × Obj)}
    (hdp : dp < 400) (hun : un < 199)
    (B : Below A₀ base outer h₀) (F : Fr h₀ L s.heap m) (X : (hd.heap_39 w.params).In h₀) (N : News h₀ L s.heap (lexL e ln t1 [] nf ++ rest)) (T : Top p loose mean mg mb h₀) (hk : cs.kind = .function) (C : CodeHd base 125 121)
    (hit : (it, ciObj q (Str.ofString "") ts) ∈ rest) (hq : (q, methodObj (.ref 35) (.ref e.x)) ∈ rest)
    (hr : ∀ p ∈ lexL e ln t1 [] nf ++ rest', p ∈ lexL e ln t1 [] nf ++ rest ∧ p.1 ≠ it)
    (h : ∀ h' tk', Fr h₀ L h' m → News h₀ L h' (lexL e ln t1 [] nf ++ rest') → Qo none { s with heap := h', toks := tk' }) :
    wpAny (model Challenge.rw_pg0080_01.row.prog w) (ktrTop dp un gd cn cs L a ccd cl outer) (pyNext (.ref it)) Qo E s := by
  obtain ⟨of, fd, h35, hfd⟩ := fn35 w.params
  have hL : it ≠ L := (N _ (List.mem_append_right _ hit)).2.1
  have hi0 : h₀.get? it = none := (N _ (List.mem_append_right _ hit)).2.2
  refine ci_next rfl (N _ (List.mem_append_right _ hit)).1 (N _ (List.mem_append_right _ hq)).1 ((X.keeps F.keep) _ _ h35) hfd ?_
  refine codeAny_mono (c_read0 (Q := fun v s' => ∃ y u, v = .str y u ∧ s'.heap.get? it = some (ciObj q (Str.ofString "") ts) ∧ s'.heap.get? q = some (methodObj (.ref 35) (.ref e.x)) ∧ s'.heap.get? 35 = some of ∧
          (y ≠ Str.ofString "" → Qo (some (.str y u)) s') ∧ (y = Str.ofString "" → ∀ h', Heap.ExtBut it s'.heap h' → Qo none { s' with heap := h' })) (E := fun _ _ => False) (un := un + 1) ok hdp (by omega) B F X N T hk C ?_) ?_
  · intro h' tk' t' F' N'
    refine ⟨_, _, rfl, (N' _ (List.mem_append_right _ hit)).1, (N' _ (List.mem_append_right _ hq)).1, (X.keeps F'.keep) _ _ h35, fun hx => absurd rfl hx, fun _ h'' hx => ?_⟩
    refine h h'' tk' ⟨F'.ns.at' fun o e => hx _ _ hL.symm e, fun b o e => hx b o (fun q => by rw [q, hi0] at e; cases e) (F'.keep b o e), F'.above⟩ fun p hp => ?_
    exact ⟨hx _ _ (hr p hp).2 (N' p (hr p hp).1).1, (N' p (hr p hp).1).2⟩
  · intro r s' hr
    exact hr
def gtOf : Option Obj → Option (List Stmt × List Stmt × List Stmt × Scope)
  | some ⟨_, _, .func fd, _⟩ => (match fd.body with
    | .stmts [_, _, _, .For _ _ ob _ _, _] => (match ob with
      | [_, .If _ [.For _ _ i1 _ _] [_, _, .For _ _ i2 _ _] _] => some (ob, i1, i2, fd.scope)
      | _ => none)
    | _ => none)
  | _ => none
noncomputable abbrev gtP : Σ' (ob i1 i2 : List Stmt) (sc : Scope), ∀ P, gtOf ((hd.heap_39 P).lookup 42) = some (ob, i1, i2, sc) := ⟨_, _, _, _, by with_unfolding_all exact fun _ => rfl⟩
abbrev gtM (x it : Addr) (acc : Str) (tt : Tok) (cv : Option Value) : Str → Option Value := fun y =>
  if y = Str.ofString "ch" then cv else if y = Str.ofString "token" then some (.str acc tt) else if y = Str.ofString "fiter" then some (.ref it) else if y = Str.ofString "self" then some (.ref x) else none
inductive Chs : List Value → List Nat → Prop
  | nil : Chs [] []
  | cons (c : Nat) (t : Tok) {vs : List Value} {cs : List Nat} : Chs vs cs → Chs (chv (c, t) :: vs) (c :: cs)
def encW : List Nat → List Nat
  | [] => []
  | c :: w => (if c = 34 ∨ c = 92 then [92, c] else [c]) ++ encW w
def nls : List Nat → Int
  | [] => 0
  | c :: w => nlOf c + nls w
abbrev mkS (l : List Nat) : Str := ⟨l.toArray⟩
theorem ch_eq {c d : Nat} {x : Str} (hx : x = ⟨#[d]⟩) (h : ((⟨#[c]⟩ : Str) == x) = true) : c = d := by
  have e := eq_of_beq h
  rw [hx] at e
  simpa using e
theorem gt_norm1 {h : Heap} {x it : Addr} {acc acc' : Str} {tt tt' : Tok} {cv : Option Value} {v : Value} (F : Fr h₀ L h (fun y => if y = Str.ofString "token" then some (.str acc' tt') else if y = Str.ofString "ch" then some v else gtM x it acc tt cv y)) : Fr h₀ L h (gtM x it acc' tt' (some v)) :=
  fr_norm F fun y => by
    by_cases h1 : y = Str.ofString "token"
    · subst h1; simp [gtM, show Str.ofString "token" ≠ Str.ofString "ch" by decide]
    · by_cases h2 : y = Str.ofString "ch"
      · subst h2; simp [gtM, show Str.ofString "ch" ≠ Str.ofString "token" by decide]
      · simp [gtM, h1, h2]
theorem gt_norm2 {h : Heap} {x it : Addr} {acc acc' : Str} {tt tt' : Tok} {cv : Option Value} {v v2 : Value} (F : Fr h₀ L h (fun y => if y = Str.ofString "token" then some (.str acc' tt') else if y = Str.ofString "ch" then some v2 else if y = Str.ofString "ch" then some v else gtM x it acc tt cv y)) : Fr h₀ L h (gtM x it acc' tt' (some v2)) :=
  fr_norm F fun y => by
    by_cases h1 : y = Str.ofString "token"
    · subst h1; simp [gtM, show Str.ofString "token" ≠ Str.ofString "ch" by decide]
    · by_cases h2 : y = Str.ofString "ch"
      · subst h2; simp [gtM, show Str.ofString "ch" ≠ Str.ofString "token" by decide]
      · simp [gtM, h1, h2]
theorem acc_cons (acc : Str) (c : Nat) (wd : List Nat) : (acc ++ (⟨#[c]⟩ : Str)) ++ mkS wd = acc ++ mkS (c :: wd) := by
  rw [Str.append_assoc]
  congr 1
  apply Str.ext'
  rw [Str.cps_append]
  simp
theorem inner_q {e : Lx} (ok : e.Ok) {it q : Addr} {ts : Tok} {Qf : Flow → Shared → Prop} {rc : List Nat}
    (hdp : dp < 400) (hun : un < 190) (B : Below A₀ base outer h₀) (X : (hd.heap_39 w.params).In h₀) (T : Top p loose mean mg mb h₀) (C : CodeHd base 125 121)
    (e8 : ∀ p ∈ rest, p.1 ≠ e.lf) (g8 : ∀ p ∈ rest, p.1 ≠ e.dx)
    (hit : (it, ciObj q (Str.ofString "") ts) ∈ rest) (hq : (q, methodObj (.ref 35) (.ref e.x)) ∈ rest) :
    ∀ (wd : List Nat) {tv : List Value} {acc : Str} {tt : Tok} {cv : Option Value} {ln : Int} {t1 : Tok} {nf : Nat} {s : Shared}, Chs tv (encW wd ++ 34 :: rc) → acc.length + wd.length < 1000 → tv.length < 4000 →
      Fr h₀ L s.heap (gtM e.x it acc tt cv) → News h₀ L s.heap (lexL e ln t1 tv nf ++ rest) →
      (∀ h' tk' tt' t1' rv nf' m', Chs rv rc → Fr h₀ L h' m' → News h₀ L h' (lexL e (ln + nls wd) t1' rv nf' ++ rest) → Qf (.ret (.str (acc ++ mkS wd) tt')) { s with heap := h', toks := tk' }) →
      itRest Challenge.rw_pg0080_01.row.prog w (ktrTop dp un gd (Str.ofString "_netrclex.get_token") gtP.2.2.2.1 L 42 (.ref 41) [] outer) E (envOf (Str.ofString "_netrclex.get_token") gtP.2.2.2.1 L 42 (.ref 41)) (Str.ofString "ch") gtP.2.1 Qf it (wd.length + 1) s := by
  intro wd
  induction wd with
  | nil =>
    intro tv acc tt cv ln t1 nf s hch hacc htv F N h
    cases hch
    rename_i t vs hch
    refine itRest.succ ?_
    refine next_char ok hdp (by omega) B F X N T rfl C (by simp at htv; omega) e8 g8 hit hq ?_
    intro h' tk' t' t1' F' N'
    dsimp only [OwitTurn]
    dsimp only [lexL, lamP, gtP, chv, List.cons_append, List.nil_append] at *
    k_steps
    rename News _ _ _ _ => N9
    rw [show acc ++ mkS [] = acc from Str.append_empty acc] at h
    exact h _ _ _ _ _ _ _ hch (by k_asm) N9
  | cons c wd ih =>
    intro tv acc tt cv ln t1 nf s hch hacc htv F N h
    simp only [encW] at hch
    by_cases hc : c = 34 ∨ c = 92
    · rw [if_pos hc] at hch
      cases hch
      rename_i t vs hch
      cases hch
      rename_i t2 vs hch
      refine itRest.succ ?_
      refine next_char ok hdp (by omega) B F X N T rfl C (by simp at htv ⊢; omega) e8 g8 hit hq ?_
      intro h' tk' t' t1' F' N'
      dsimp only [OwitTurn]
      dsimp only [lexL, lamP, gtP, chv, List.cons_append, List.nil_append] at *
      k_steps
      rename News _ _ _ _ => N9
      refine ih (acc := acc ++ (⟨#[c]⟩ : Str)) hch (by rw [Str.length_append, show Str.length ⟨#[c]⟩ = 1 from rfl]; rw [List.length_cons] at hacc; omega) (by simp at htv ⊢; omega) (gt_norm2 (by k_asm)) N9 ?_
      intro h2 tk2 tt2 t12 rv nf2 m2 hrv F2 N2
      rw [acc_cons]
      refine h h2 tk2 tt2 t12 rv nf2 m2 hrv F2 ?_
      rw [show ln + nls (c :: wd) = ln + nlOf 92 + nlOf c + nls wd by (simp only [nls, show nlOf 92 = 0 from rfl]; omega)]
      exact N2
    · rw [if_neg hc] at hch
      cases hch
      rename_i t vs hch
      have hn1 : ¬ ((⟨#[c]⟩ : Str) == Str.ofString "\"") = true := fun h => hc (.inl (ch_eq (by decide +kernel) h))
      have hn2 : ¬ ((⟨#[c]⟩ : Str) == Str.ofString "\\") = true := fun h => hc (.inr (ch_eq (by decide +kernel) h))
      refine itRest.succ ?_
      refine next_char ok hdp (by omega) B F X N T rfl C (by simp at htv ⊢; omega) e8 g8 hit hq ?_
      intro h' tk' t' t1' F' N'
      dsimp only [OwitTurn]
      dsimp only [lexL, lamP, gtP, chv, List.cons_append, List.nil_append] at *
      k_steps
      rename News _ _ _ _ => N9
      refine ih (acc := acc ++ (⟨#[c]⟩ : Str)) hch (by rw [Str.length_append, show Str.length ⟨#[c]⟩ = 1 from rfl]; rw [List.length_cons] at hacc; omega) (by simp at htv ⊢; omega) (gt_norm1 (by k_asm)) N9 ?_
      intro h2 tk2 tt2 t12 rv nf2 m2 hrv F2 N2
      rw [acc_cons]
      refine h h2 tk2 tt2 t12 rv nf2 m2 hrv F2 ?_
      rw [show ln + nls (c :: wd) = ln + nlOf c + nls wd by (simp only [nls, show nlOf 92 = 0 from rfl]; omega)]
      exact N2
end
end
section
theorem seed6 : True := by
  w_top off
  exact True.intro
section
variable {w : World} {dp un : Nat} {gd : Option (List Code)} {cn : Str} {cs : Scope} {a : Addr} {ccd : Value} {cl : List (Str × Addr)} {outer : List Env} {A₀ : Around} {base h₀ : Heap} {L : Addr} {m : Str → Option Value} {rest : List (Addr × Obj)} {s : Shared}
    {Q E : Value → Shared → Prop} {Q2 : Flow → Shared → Prop} {p : Program} {loose : List Str} {mean : ExcName → Option Value} {mg mb : Str → Option Value}
theorem inner_n {e : Lx} (ok : e.Ok) {it q : Addr} {ts : Tok} {Qf : Flow → Shared → Prop} {rc : List Nat} {b : Nat} (hb : signIn (Str.ofString "\n\t\r ") b = true)
    (hdp : dp < 400) (hun : un < 190) (B : Below A₀ base outer h₀) (X : (hd.heap_39 w.params).In h₀) (T : Top p loose mean mg mb h₀) (C : CodeHd base 125 121)
    (e8 : ∀ p ∈ rest, p.1 ≠ e.lf) (g8 : ∀ p ∈ rest, p.1 ≠ e.dx)
    (hit : (it, ciObj q (Str.ofString "") ts) ∈ rest) (hq : (q, methodObj (.ref 35) (.ref e.x)) ∈ rest) :
    ∀ (wd : List Nat) {tv : List Value} {acc : Str} {tt : Tok} {cv : Option Value} {ln : Int} {t1 : Tok} {nf : Nat} {s : Shared}, Chs tv (wd ++ b :: rc) → (∀ c ∈ wd, signIn (Str.ofString "\n\t\r ") c = false ∧ c ≠ 92) → acc.length + wd.length < 1000 → tv.length < 4000 →
      Fr h₀ L s.heap (gtM e.x it acc tt cv) → News h₀ L s.heap (lexL e ln t1 tv nf ++ rest) →
      (∀ h' tk' tt' t1' rv nf' m', Chs rv rc → Fr h₀ L h' m' → News h₀ L h' (lexL e (ln + nls wd + nlOf b) t1' rv nf' ++ rest) → Qf (.ret (.str (acc ++ mkS wd) tt')) { s with heap := h', toks := tk' }) →
      itRest Challenge.rw_pg0080_01.row.prog w (ktrTop dp un gd (Str.ofString "_netrclex.get_token") gtP.2.2.2.1 L 42 (.ref 41) [] outer) E (envOf (Str.ofString "_netrclex.get_token") gtP.2.2.2.1 L 42 (.ref 41)) (Str.ofString "ch") gtP.2.2.1 Qf it (wd.length + 1) s := by
  intro wd
  induction wd with
  | nil =>
    intro tv acc tt cv ln t1 nf s hch hwd hacc htv F N h
    cases hch
    rename_i t vs hch
    refine itRest.succ ?_
    refine next_char ok hdp (by omega) B F X N T rfl C (by simp at htv; omega) e8 g8 hit hq ?_
    intro h' tk' t' t1' F' N'
    dsimp only [OwitTurn]
    dsimp only [lexL, lamP, gtP, chv, List.cons_append, List.nil_append] at *
    k_steps
    rename News _ _ _ _ => N9
    rw [show acc ++ mkS [] = acc from Str.append_empty acc] at h
    rw [show ln + nls [] + nlOf b = ln + nlOf b by simp only [nls]; omega] at h
    exact h _ _ _ _ _ _ _ hch (by k_asm) N9
  | cons c wd ih =>
    intro tv acc tt cv ln t1 nf s hch hwd hacc htv F N h
    cases hch
    rename_i t vs hch
    have hn2 : ¬ ((⟨#[c]⟩ : Str) == Str.ofString "\\") = true := fun h => (hwd c List.mem_cons_self).2 (ch_eq (by decide +kernel) h)
    have hn1 : ¬ signIn (Str.ofString "\n\t\r ") c = true := by rw [(hwd c List.mem_cons_self).1]; decide
    refine itRest.succ ?_
    refine next_char ok hdp (by omega) B F X N T rfl C (by simp at htv ⊢; omega) e8 g8 hit hq ?_
    intro h' tk' t' t1' F' N'
    dsimp only [OwitTurn]
    dsimp only [lexL, lamP, gtP, chv, List.cons_append, List.nil_append] at *
    k_steps
    rename News _ _ _ _ => N9
    refine ih (acc := acc ++ (⟨#[c]⟩ : Str)) hch (fun c hc => hwd c (List.mem_cons_of_mem _ hc)) (by rw [Str.length_append, show Str.length ⟨#[c]⟩ = 1 from rfl]; rw [List.length_cons] at hacc; omega) (by simp at htv ⊢; omega) (gt_norm1 (by k_asm)) N9 ?_
    intro h2 tk2 tt2 t12 rv nf2 m2 hrv F2 N2
    rw [acc_cons]
    refine h h2 tk2 tt2 t12 rv nf2 m2 hrv F2 ?_
    rw [show ln + nls (c :: wd) + nlOf b = ln + nlOf c + nls wd + nlOf b by (simp only [nls]; omega)]
    exact N2
end
end
section
theorem seed7 : True := by
  w_top off
  exact True.intro
section
variable {w : World} {dp un : Nat} {gd : Option (List Code)} {cn : Str} {cs : Scope} {a : Addr} {ccd : Value} {cl : List (Str × Addr)} {outer : List Env} {A₀ : Around} {base h₀ : Heap} {L : Addr} {m : Str → Option Value} {rest : List (Addr × Obj)} {s : Shared}
    {Q E : Value → Shared → Prop} {Q2 : Flow → Shared → Prop} {p : Program} {loose : List Str} {mean : ExcName → Option Value} {mg mb : Str → Option Value}
theorem mem_sh3 {α : Type} {p1 p2 p3 : α} {l r : List α} : ∀ q ∈ l ++ (p1 :: p2 :: p3 :: r), q ∈ p1 :: p2 :: p3 :: (l ++ r) := by
  ((repeat' (first | refine List.forall_mem_cons.mpr ⟨?_, ?_⟩ | refine List.forall_mem_append.mpr ⟨?_, ?_⟩)) <;> first | ((repeat (first | exact List.mem_cons_self | refine List.mem_cons_of_mem _ ?_ | refine List.mem_append_right _ ?_)); done) | exact List.forall_mem_nil _ | (intro q hq; (repeat (first | exact hq | exact List.mem_append_left _ hq | refine List.mem_cons_of_mem _ ?_ | refine List.mem_append_right _ ?_)); done))
theorem mem_bk3 {α : Type} {p1 p2 p3 : α} {l r : List α} : ∀ q ∈ p3 :: (l ++ r), q ∈ l ++ (p1 :: p2 :: p3 :: r) := by
  ((repeat' (first | refine List.forall_mem_cons.mpr ⟨?_, ?_⟩ | refine List.forall_mem_append.mpr ⟨?_, ?_⟩)) <;> first | ((repeat (first | exact List.mem_cons_self | refine List.mem_cons_of_mem _ ?_ | refine List.mem_append_right _ ?_)); done) | exact List.forall_mem_nil _ | (intro q hq; (repeat (first | exact hq | exact List.mem_append_left _ hq | refine List.mem_cons_of_mem _ ?_ | refine List.mem_append_right _ ?_)); done))
theorem mem_bk1 {α : Type} {p3 : α} {l r : List α} : ∀ q ∈ p3 :: (l ++ r), q ∈ l ++ (p3 :: r) := by
  ((repeat' (first | refine List.forall_mem_cons.mpr ⟨?_, ?_⟩ | refine List.forall_mem_append.mpr ⟨?_, ?_⟩)) <;> first | ((repeat (first | exact List.mem_cons_self | refine List.mem_cons_of_mem _ ?_ | refine List.mem_append_right _ ?_)); done) | exact List.forall_mem_nil _ | (intro q hq; (repeat (first | exact hq | exact List.mem_append_left _ hq | refine List.mem_cons_of_mem _ ?_ | refine List.mem_append_right _ ?_)); done))
theorem allLt_mem {d : Nat} : ∀ {l : List (Addr × Obj)}, AllLt d l → ∀ q ∈ l, q.1 ≠ d
  | [], _, _, h => nomatch h
  | _ :: _, x, q, h => by
    rcases List.mem_cons.mp h with rfl | h
    · exact Nat.ne_of_lt x.1
    · exact allLt_mem x.2 q h
theorem off_end {l r : List (Addr × Obj)} {i : Addr} {o : Obj} {p2 p3 : Addr × Obj} (h : ∀ q ∈ l ++ (p3 :: r), q.1 ≠ i) : ∀ q ∈ l ++ (p3 :: r), q ∈ l ++ ((i, o) :: p2 :: p3 :: r) ∧ q.1 ≠ i := fun q hq => ⟨by
  simp only [List.mem_append, List.mem_cons] at hq ⊢
  rcases hq with h | h | h <;> simp [h], h q hq⟩
theorem gt_norm0 {h : Heap} {x it : Addr} {acc : Str} {tt : Tok} (F : Fr h₀ L h (fun y => if y = Str.ofString "fiter" then some (.ref it) else if y = Str.ofString "token" then some (.str acc tt) else List.lookup y [(Str.ofString "self", Value.ref x)])) : Fr h₀ L h (gtM x it acc tt none) :=
  fr_norm F fun y => by
    by_cases h1 : y = Str.ofString "ch"
    · subst h1; simp [gtM, List.lookup, show (Str.ofString "ch" == Str.ofString "self") = false by decide, show Str.ofString "ch" ≠ Str.ofString "token" by decide, show Str.ofString "ch" ≠ Str.ofString "fiter" by decide]
    · by_cases h2 : y = Str.ofString "token"
      · subst h2; simp [gtM, h1, show Str.ofString "token" ≠ Str.ofString "fiter" by decide]
      · by_cases h3 : y = Str.ofString "fiter"
        · subst h3; simp [gtM, h1, h2]
        · by_cases h4 : y = Str.ofString "self"
          · subst h4; simp [gtM, h1, h2, h3, List.lookup]
          · simp [gtM, h1, h2, h3, h4, List.lookup, beq_eq_false_iff_ne.mpr h4]
theorem gt_normC {h : Heap} {x it : Addr} {acc : Str} {tt : Tok} {cv : Option Value} {v : Value} (F : Fr h₀ L h (fun y => if y = Str.ofString "ch" then some v else gtM x it acc tt cv y)) : Fr h₀ L h (gtM x it acc tt (some v)) :=
  fr_norm F fun y => by
    by_cases h2 : y = Str.ofString "ch"
    · subst h2; simp [gtM]
    · simp [gtM, h2]
local macro_rules | `(tactic| walk_at "pyIter ref") => `(tactic| (k_here; k_dflt (refine ci_iter (News.get (by k_asm) (by k_mem)) ?_)))
theorem gt_start {e : Lx} (ok : e.Ok) {ln : Int} {t1 : Tok} {tv : List Value} {nf np : Nat}
    (hdp : dp < 390) (hun : un < 180)
    (B : Below A₀ base outer h₀) (F : Fr h₀ L s.heap m) (X : (hd.heap_39 w.params).In h₀) (N : News h₀ L s.heap ((e.pb, W.listOf ([] : List Value).toArray np) :: (lexL e ln t1 tv nf ++ rest))) (T : Top p loose mean mg mb h₀) (hk : cs.kind = .function)
    (e8 : ∀ p ∈ rest, p.1 ≠ e.lf) (g8 : ∀ p ∈ rest, p.1 ≠ e.dx)
    (k : ∀ (g' : Heap) (L' I q : Addr) (ts tt : Tok) (h' : Heap) (tk' : Nat) (Qf : Flow → Shared → Prop) (E' : Value → Shared → Prop),
      PassesOwn (model Challenge.rw_pg0080_01.row.prog w) (ktrTop (dp + 1) (un + 3) gd (Str.ofString "_netrclex.get_token") gtP.2.2.2.1 L' 42 (.ref 41) [] (envX cn cs L a ccd cl :: outer)) (envOf (Str.ofString "_netrclex.get_token") gtP.2.2.2.1 L' 42 (.ref 41)) E' → Below (ktrTop dp un gd cn cs L a ccd cl outer) base (envX cn cs L a ccd cl :: outer) g' → (hd.heap_39 w.params).In g' → Top p loose mean mg mb g' → (∀ p ∈ (I, ciObj q (Str.ofString "") ts) :: (q, methodObj (.ref 35) (.ref e.x)) :: (e.pb, W.listOf ([] : List Value).toArray np) :: rest, p.1 ≠ e.lf) → (∀ p ∈ (I, ciObj q (Str.ofString "") ts) :: (q, methodObj (.ref 35) (.ref e.x)) :: (e.pb, W.listOf ([] : List Value).toArray np) :: rest, p.1 ≠ e.dx) →
      (∀ p ∈ lexL e ln t1 tv nf ++ ((e.pb, W.listOf ([] : List Value).toArray np) :: rest), p.1 ≠ I) →
      Fr g' L' h' (gtM e.x I (Str.ofString "") tt none) → News g' L' h' (lexL e ln t1 tv nf ++ ((I, ciObj q (Str.ofString "") ts) :: (q, methodObj (.ref 35) (.ref e.x)) :: (e.pb, W.listOf ([] : List Value).toArray np) :: rest)) →
      (∀ x t h2 tk2 m2 nw, Fr g' L' h2 m2 → News g' L' h2 nw → (∀ h3 tk3, Fr h₀ L h3 m → News h₀ L h3 nw → Q (.str x t) { s with heap := h3, toks := tk3 }) → Qf (.ret (.str x t)) { s with heap := h2, toks := tk2 }) →
      (∀ x t h2 tk2 cv nw, Fr g' L' h2 (gtM e.x I x t cv) → News g' L' h2 nw → (∀ h3 tk3, Fr h₀ L h3 m → News h₀ L h3 nw → Q (.str x t) { s with heap := h3, toks := tk3 }) → Qf .next { s with heap := h2, toks := tk2 }) →
      itAt Challenge.rw_pg0080_01.row.prog w (ktrTop (dp + 1) (un + 3) gd (Str.ofString "_netrclex.get_token") gtP.2.2.2.1 L' 42 (.ref 41) [] (envX cn cs L a ccd cl :: outer)) E' (envOf (Str.ofString "_netrclex.get_token") gtP.2.2.2.1 L' 42 (.ref 41)) (Str.ofString "ch") gtP.1 Qf (.ref I) { s with heap := h', toks := tk' }) :
    codeAny (model Challenge.rw_pg0080_01.row.prog w) (ktrTop dp un gd cn cs L a ccd cl outer) (.call (.ref 42) ⟨[.ref e.x], []⟩) (fun r s' => match r with | .ok (.ret v) => Q v s' | .ok _ => False | .error e => E e s') s := by
  have ord := ok.ord
  dsimp only [lexL, lamP, chv, List.cons_append, List.nil_append] at N
  k_dflt ktr_enter
  k_steps
  refine for_it ?_
  k_steps
  rename Fr _ _ _ _ => F9
  rename News _ _ _ _ => N9
  have F9 := gt_norm0 F9
  have N9 := news_sub N9 (mem_sh3 (l := lexL e ln t1 tv nf) (r := rest))
  rename (@LT.lt Nat _ _ _ ∧ _) => l9
  have hI : ∀ p ∈ lexL e ln t1 tv nf ++ ((e.pb, W.listOf ([] : List Value).toArray np) :: rest), p.1 ≠ _ := List.forall_mem_append.mpr ⟨List.forall_mem_cons.mpr ⟨Nat.ne_of_lt l9.2.2.1, List.forall_mem_cons.mpr ⟨Nat.ne_of_lt l9.2.2.2.1, List.forall_mem_cons.mpr ⟨Nat.ne_of_lt l9.2.2.2.2.1, List.forall_mem_cons.mpr ⟨Nat.ne_of_lt l9.2.2.2.2.2.1, List.forall_mem_cons.mpr ⟨Nat.ne_of_lt l9.2.2.2.2.2.2.1, List.forall_mem_cons.mpr ⟨Nat.ne_of_lt l9.2.2.2.2.2.2.2.1, List.forall_mem_cons.mpr ⟨Nat.ne_of_lt l9.2.2.2.2.2.2.2.2.1, List.forall_mem_cons.mpr ⟨Nat.ne_of_lt l9.2.2.2.2.2.2.2.2.2.1, List.forall_mem_nil _⟩⟩⟩⟩⟩⟩⟩⟩, List.forall_mem_cons.mpr ⟨Nat.ne_of_lt l9.2.1, allLt_mem l9.2.2.2.2.2.2.2.2.2.2⟩⟩
  refine k _ _ _ _ _ _ _ _ _ _ (by passes_own) (by k_asm) (by k_asm) (by k_asm) (by k_all) (by k_all) hI F9 N9 ?_ ?_
  · intro x t h2 tk2 m2 nw F2 N2 hh
    dsimp only
    k_steps
    rename News _ _ _ _ => N3
    exact hh _ _ (by k_asm) N3
  · intro x t h2 tk2 cv nw F2 N2 hh
    dsimp only
    k_steps
    rename News _ _ _ _ => N3
    exact hh _ _ (by k_asm) N3
theorem c_get_q {e : Lx} (ok : e.Ok) {ln : Int} {t1 : Tok} {tv : List Value} {nf np : Nat} {b0 : Nat} {wd rc : List Nat}
    (hdp : dp < 390) (hun : un < 180)
    (B : Below A₀ base outer h₀) (F : Fr h₀ L s.heap m) (X : (hd.heap_39 w.params).In h₀) (N : News h₀ L s.heap ((e.pb, W.listOf ([] : List Value).toArray np) :: (lexL e ln t1 tv nf ++ rest))) (T : Top p loose mean mg mb h₀) (hk : cs.kind = .function) (C : CodeHd base 125 121)
    (hch : Chs tv (b0 :: 34 :: (encW wd ++ 34 :: rc))) (hb0 : signIn (Str.ofString "\n\t\r ") b0 = true) (hwd : wd.length < 900) (htv : tv.length < 4000)
    (e8 : ∀ p ∈ rest, p.1 ≠ e.lf) (g8 : ∀ p ∈ rest, p.1 ≠ e.dx)
    (h : ∀ h' tk' tt t1' rv nf', Chs rv rc → Fr h₀ L h' m → News h₀ L h' ((e.pb, W.listOf ([] : List Value).toArray np) :: (lexL e (ln + nlOf b0 + nls wd) t1' rv nf' ++ rest)) → Q (.str (mkS wd) tt) { s with heap := h', toks := tk' }) :
    codeAny (model Challenge.rw_pg0080_01.row.prog w) (ktrTop dp un gd cn cs L a ccd cl outer) (.call (.ref 42) ⟨[.ref e.x], []⟩) (fun r s' => match r with | .ok (.ret v) => Q v s' | .ok _ => False | .error e => E e s') s := by
  obtain ⟨dq, hdq⟩ : ∃ d : Nat, d = 34 := ⟨34, rfl⟩
  replace hch : Chs tv (b0 :: dq :: (encW wd ++ 34 :: rc)) := by rw [hdq]; exact hch
  have h34 : ¬ signIn (Str.ofString "\n\t\r ") dq = true := by rw [hdq]; decide +kernel
  have h35 : ((⟨#[dq]⟩ : Str) == Str.ofString "\"") = true := by rw [hdq]; decide +kernel
  cases hch
  rename_i t vs hch
  cases hch
  rename_i t2 vs hch
  refine gt_start (tv := chv (b0, t) :: chv (dq, t2) :: vs) ok hdp hun B F X N T hk e8 g8 ?_
  clear F N B X T
  intro g' L' I q ts tt h' tk' Qf E' hE B' X' T' e9 g9 hI F9 N9 hret hnext
  have ord := ok.ord
  refine itAt.intro 2 ?_
  refine itRest.succ ?_
  refine next_char (rest := _ :: _ :: _ :: rest) (dp := dp + 1) (un := un + 3) ok (up_lt hdp (by decide)) (up_lt hun (by decide)) (by k_asm) F9 (by k_asm) N9 (by k_asm) rfl C (by simp at htv ⊢; omega) e9 g9 List.mem_cons_self (List.mem_cons_of_mem _ List.mem_cons_self) ?_
  intro h' tk' t' t1' F' N'
  dsimp only [OwitTurn]
  dsimp only [lexL, lamP, chv, List.cons_append, List.nil_append] at N'
  k_steps
  rename Fr _ _ _ _ => F9
  rename News _ _ _ _ => N9
  have F9 := gt_normC F9
  refine itRest.succ ?_
  refine next_char (rest := _ :: _ :: _ :: rest) (dp := dp + 1) (un := un + 3) ok (up_lt hdp (by decide)) (up_lt hun (by decide)) (by k_asm) F9 (by k_asm) N9 (by k_asm) rfl C (by simp at htv ⊢; omega) e9 g9 List.mem_cons_self (List.mem_cons_of_mem _ List.mem_cons_self) ?_
  intro h' tk' t' t1' F' N'
  dsimp only [OwitTurn]
  dsimp only [lexL, lamP, chv, List.cons_append, List.nil_append] at N'
  k_steps
  refine for_it ?_ (hE := hE)
  k_steps
  rename Fr _ _ _ _ => F9
  rename News _ _ _ _ => N9
  have F9 := gt_normC F9
  refine itAt.intro (wd.length + 1) ?_
  refine inner_q (rest := _ :: _ :: _ :: rest) (dp := dp + 1) (un := un + 3) ok (up_lt hdp (by decide)) (up_lt hun (by decide)) (by k_asm) (by k_asm) (by k_asm) C e9 g9 List.mem_cons_self (List.mem_cons_of_mem _ List.mem_cons_self) wd hch (by rw [show Str.length (Str.ofString "") = 0 by decide +kernel]; omega) (by simp at htv ⊢; omega) F9 N9 ?_
  intro h' tk' tt' t1' rv nf' m' hrv F' N'
  dsimp only
  k_steps
  rw [show Str.ofString "" ++ mkS wd = mkS wd from Str.empty_append _]
  rw [show ln + nlOf b0 + nlOf dq + nls wd = ln + nlOf b0 + nls wd by rw [hdq, show nlOf 34 = 0 from rfl]; omega] at N'
  refine hret _ _ _ _ _ _ F' N' ?_
  intro h3 tk3 F3 N3
  exact h _ _ _ _ _ _ hrv F3 (news_sub N3 (mem_bk3 (l := lexL e (ln + nlOf b0 + nls wd) t1' rv nf')))
theorem c_get_n {e : Lx} (ok : e.Ok) {ln : Int} {t1 : Tok} {tv : List Value} {nf np : Nat} {b0 b c : Nat} {wd rc : List Nat}
    (hdp : dp < 390) (hun : un < 180)
    (B : Below A₀ base outer h₀) (F : Fr h₀ L s.heap m) (X : (hd.heap_39 w.params).In h₀) (N : News h₀ L s.heap ((e.pb, W.listOf ([] : List Value).toArray np) :: (lexL e ln t1 tv nf ++ rest))) (T : Top p loose mean mg mb h₀) (hk : cs.kind = .function) (C : CodeHd base 125 121)
    (hch : Chs tv (b0 :: c :: (wd ++ b :: rc))) (hb : signIn (Str.ofString "\n\t\r ") b = true) (hws : ∀ d ∈ c :: wd, signIn (Str.ofString "\n\t\r ") d = false ∧ d ≠ 92) (hc34 : c ≠ 34) (hb0 : signIn (Str.ofString "\n\t\r ") b0 = true) (hwd : wd.length < 900) (htv : tv.length < 4000)
    (e8 : ∀ p ∈ rest, p.1 ≠ e.lf) (g8 : ∀ p ∈ rest, p.1 ≠ e.dx)
    (h : ∀ h' tk' tt t1' rv nf', Chs rv rc → Fr h₀ L h' m → News h₀ L h' ((e.pb, W.listOf ([] : List Value).toArray np) :: (lexL e (ln + nlOf b0 + nls (c :: wd) + nlOf b) t1' rv nf' ++ rest)) → Q (.str (mkS (c :: wd)) tt) { s with heap := h', toks := tk' }) :
    codeAny (model Challenge.rw_pg0080_01.row.prog w) (ktrTop dp un gd cn cs L a ccd cl outer) (.call (.ref 42) ⟨[.ref e.x], []⟩) (fun r s' => match r with | .ok (.ret v) => Q v s' | .ok _ => False | .error e => E e s') s := by
  have h34 : ¬ signIn (Str.ofString "\n\t\r ") c = true := by rw [(hws c List.mem_cons_self).1]; decide
  have h35 : ¬ ((⟨#[c]⟩ : Str) == Str.ofString "\"") = true := fun h => hc34 (ch_eq (by decide +kernel) h)
  have h36 : ¬ ((⟨#[c]⟩ : Str) == Str.ofString "\\") = true := fun h => (hws c List.mem_cons_self).2 (ch_eq (by decide +kernel) h)
  cases hch
  rename_i t vs hch
  cases hch
  rename_i t2 vs hch
  refine gt_start (tv := chv (b0, t) :: chv (c, t2) :: vs) ok hdp hun B F X N T hk e8 g8 ?_
  clear F N B X T
  intro g' L' I q ts tt h' tk' Qf E' hE B' X' T' e9 g9 hI F9 N9 hret hnext
  have ord := ok.ord
  refine itAt.intro 2 ?_
  refine itRest.succ ?_
  refine next_char (rest := _ :: _ :: _ :: rest) (dp := dp + 1) (un := un + 3) ok (up_lt hdp (by decide)) (up_lt hun (by decide)) (by k_asm) F9 (by k_asm) N9 (by k_asm) rfl C (by simp at htv ⊢; omega) e9 g9 List.mem_cons_self (List.mem_cons_of_mem _ List.mem_cons_self) ?_
  intro h' tk' t' t1' F' N'
  dsimp only [OwitTurn]
  dsimp only [lexL, lamP, chv, List.cons_append, List.nil_append] at N'
  k_steps
  rename Fr _ _ _ _ => F9
  rename News _ _ _ _ => N9
  have F9 := gt_normC F9
  refine itRest.succ ?_
  refine next_char (rest := _ :: _ :: _ :: rest) (dp := dp + 1) (un := un + 3) ok (up_lt hdp (by decide)) (up_lt hun (by decide)) (by k_asm) F9 (by k_asm) N9 (by k_asm) rfl C (by simp at htv ⊢; omega) e9 g9 List.mem_cons_self (List.mem_cons_of_mem _ List.mem_cons_self) ?_
  intro h' tk' t' t1' F' N'
  dsimp only [OwitTurn]
  dsimp only [lexL, lamP, chv, List.cons_append, List.nil_append] at N'
  k_steps
  refine for_it ?_ (hE := hE)
  k_steps
  rename Fr _ _ _ _ => F9
  rename News _ _ _ _ => N9
  have F9 := gt_norm1 F9
  refine itAt.intro (wd.length + 1) ?_
  refine inner_n (rest := _ :: _ :: _ :: rest) (dp := dp + 1) (un := un + 3) ok hb (by omega) (by omega) (by k_asm) (by k_asm) (by k_asm) C e9 g9 List.mem_cons_self (List.mem_cons_of_mem _ List.mem_cons_self) wd hch (fun d hd => hws d (List.mem_cons_of_mem _ hd)) (by rw [Str.length_append, show Str.length (Str.ofString "") = 0 by decide +kernel, show Str.length ⟨#[c]⟩ = 1 from rfl]; omega) (by simp at htv ⊢; omega) F9 N9 ?_
  intro h' tk' tt' t1' rv nf' m' hrv F' N'
  dsimp only
  k_steps
  rw [acc_cons, show Str.ofString "" ++ mkS (c :: wd) = mkS (c :: wd) from Str.empty_append _]
  rw [show ln + nlOf b0 + nlOf c + nls wd + nlOf b = ln + nlOf b0 + nls (c :: wd) + nlOf b by simp only [nls]; omega] at N'
  refine hret _ _ _ _ _ _ F' N' ?_
  intro h3 tk3 F3 N3
  exact h _ _ _ _ _ _ hrv F3 (news_sub N3 (mem_bk3 (l := lexL e (ln + nlOf b0 + nls (c :: wd) + nlOf b) t1' rv nf')))
theorem c_get_0 {e : Lx} (ok : e.Ok) {ln : Int} {t1 : Tok} {nf np : Nat}
    (hdp : dp < 390) (hun : un < 180)
    (B : Below A₀ base outer h₀) (F : Fr h₀ L s.heap m) (X : (hd.heap_39 w.params).In h₀) (N : News h₀ L s.heap ((e.pb, W.listOf ([] : List Value).toArray np) :: (lexL e ln t1 [] nf ++ rest))) (T : Top p loose mean mg mb h₀) (hk : cs.kind = .function) (C : CodeHd base 125 121)
    (e8 : ∀ p ∈ rest, p.1 ≠ e.lf) (g8 : ∀ p ∈ rest, p.1 ≠ e.dx)
    (h : ∀ h' tk' tt, Fr h₀ L h' m → News h₀ L h' ((e.pb, W.listOf ([] : List Value).toArray np) :: (lexL e ln t1 [] nf ++ rest)) → Q (.str (Str.ofString "") tt) { s with heap := h', toks := tk' }) :
    codeAny (model Challenge.rw_pg0080_01.row.prog w) (ktrTop dp un gd cn cs L a ccd cl outer) (.call (.ref 42) ⟨[.ref e.x], []⟩) (fun r s' => match r with | .ok (.ret v) => Q v s' | .ok _ => False | .error e => E e s') s := by
  refine gt_start (tv := []) ok hdp hun B F X N T hk e8 g8 ?_
  clear F N B X T
  intro g' L' I q ts tt h' tk' Qf E' hE B' X' T' e9 g9 hI F9 N9 hret hnext
  have ord := ok.ord
  refine itAt.intro 2 ?_
  refine itRest.succ ?_
  refine next_end (rest := _ :: _ :: _ :: rest) (rest' := _ :: rest) (dp := dp + 1) (un := un + 3) ok (up_lt hdp (by decide)) (up_lt hun (by decide)) (by k_asm) F9 (by k_asm) N9 (by k_asm) rfl C List.mem_cons_self (List.mem_cons_of_mem _ List.mem_cons_self) (off_end hI) ?_
  intro h' tk' F' N'
  have N8 := N'
  dsimp only [OwitTurn]
  dsimp only [lexL, lamP, chv, List.cons_append, List.nil_append] at N'
  k_steps
  refine hnext _ _ _ _ none _ F' N8 ?_
  intro h3 tk3 F3 N3
  exact h _ _ _ F3 (news_sub N3 (mem_bk1 (l := lexL e ln t1 [] nf)))
end
end
section
theorem seed10 : True := by
  w_top off
  exact True.intro
section
variable {w : World} {dp un : Nat} {gd : Option (List Code)} {cn : Str} {cs : Scope} {a : Addr} {ccd : Value} {cl : List (Str × Addr)} {outer : List Env} {A₀ : Around} {base h₀ : Heap} {L : Addr} {m : Str → Option Value} {rest : List (Addr × Obj)} {s : Shared}
    {Q E : Value → Shared → Prop} {Q2 : Flow → Shared → Prop} {p : Program} {loose : List Str} {mean : ExcName → Option Value} {mg mb : Str → Option Value}
def Deed (w : World) (f : Addr) (α : Type) (V : Nat → α → Value → Prop) (op : α → α → α) : Prop :=
  ∀ {dp un : Nat} {gd : Option (List Code)} {cn : Str} {cs : Scope} {a : Addr} {ccd : Value} {cl : List (Str × Addr)} {outer : List Env} {A₀ : Around} {base h₀ : Heap} {L : Addr} {m : Str → Option Value} {news : List (Addr × Obj)} {s : Shared}
    {Q E : Value → Shared → Prop} {p : Program} {loose : List Str} {mean : ExcName → Option Value} {mg mb : Str → Option Value} {x y : α} {vx vy : Value} {j : Nat},
    dp < 400 → un < 200 → Below A₀ base outer h₀ → Fr h₀ L s.heap m → (hd.heap_39 w.params).In h₀ → News h₀ L s.heap news → Top p loose mean mg mb h₀ → cs.kind = .function → j < 4 → V j x vx → V j y vy →
    (∀ h' tk' v', Fr h₀ L h' m → News h₀ L h' news → V (j + 1) (op x y) v' → Q v' { s with heap := h', toks := tk' }) →
    codeAny (model Challenge.rw_pg0080_01.row.prog w) (ktrTop dp un gd cn cs L a ccd cl outer) (.call (.ref f) ⟨[vx, vy], []⟩) (fun r s' => match r with | .ok (.ret v) => Q v s' | .ok _ => False | .error e => E e s') s
def VI (_ : Nat) (n : Int) (v : Value) : Prop := ∃ t, v = .int n t
def VS (j : Nat) (x : Str) (v : Value) : Prop := (∃ t, v = .str x t) ∧ x.length ≤ 2 * 2 ^ j
theorem d_add : Deed w 63 Int VI (fun x y => x + y) := by
  intro dp un gd cn cs a ccd cl outer A₀ base h₀ L m news s Q E p loose mean mg mb x y vx vy j hdp hun B F X N T hk hj hx hy h
  obtain ⟨tx, rfl⟩ := hx
  obtain ⟨ty, rfl⟩ := hy
  k_dflt ktr_enter
  k_steps
  exact h _ _ _ (by k_asm) (by k_asm) ⟨_, rfl⟩
theorem d_sub : Deed w 84 Int VI (fun x y => x - y) := by
  intro dp un gd cn cs a ccd cl outer A₀ base h₀ L m news s Q E p loose mean mg mb x y vx vy j hdp hun B F X N T hk hj hx hy h
  obtain ⟨tx, rfl⟩ := hx
  obtain ⟨ty, rfl⟩ := hy
  k_dflt ktr_enter
  k_steps
  exact h _ _ _ (by k_asm) (by k_asm) ⟨_, rfl⟩
theorem d_xor : Deed w 91 Int VI (fun x y => Builtin.bitXor x y) := by
  intro dp un gd cn cs a ccd cl outer A₀ base h₀ L m news s Q E p loose mean mg mb x y vx vy j hdp hun B F X N T hk hj hx hy h
  obtain ⟨tx, rfl⟩ := hx
  obtain ⟨ty, rfl⟩ := hy
  k_dflt ktr_enter
  k_steps
  exact h _ _ _ (by k_asm) (by k_asm) ⟨_, rfl⟩
theorem d_or : Deed w 77 Int VI (fun x y => Builtin.bitOr x y) := by
  intro dp un gd cn cs a ccd cl outer A₀ base h₀ L m news s Q E p loose mean mg mb x y vx vy j hdp hun B F X N T hk hj hx hy h
  obtain ⟨tx, rfl⟩ := hx
  obtain ⟨ty, rfl⟩ := hy
  k_dflt ktr_enter
  k_steps
  exact h _ _ _ (by k_asm) (by k_asm) ⟨_, rfl⟩
theorem d_and : Deed w 70 Int VI (fun x y => Builtin.bitAnd x y) := by
  intro dp un gd cn cs a ccd cl outer A₀ base h₀ L m news s Q E p loose mean mg mb x y vx vy j hdp hun B F X N T hk hj hx hy h
  obtain ⟨tx, rfl⟩ := hx
  obtain ⟨ty, rfl⟩ := hy
  k_dflt ktr_enter
  k_steps
  exact h _ _ _ (by k_asm) (by k_asm) ⟨_, rfl⟩
theorem d_cat : Deed w 98 Str VS (fun x y => x ++ y) := by
  intro dp un gd cn cs a ccd cl outer A₀ base h₀ L m news s Q E p loose mean mg mb x y vx vy j hdp hun B F X N T hk hj hx hy h
  obtain ⟨⟨tx, rfl⟩, lx⟩ := hx
  obtain ⟨⟨ty, rfl⟩, ly⟩ := hy
  have l2 : 2 ^ (j + 1) = 2 * 2 ^ j := by rw [Nat.pow_succ]; omega
  have l3 : 2 ^ j ≤ 8 := by
    have : 2 ^ j ≤ 2 ^ 3 := Nat.pow_le_pow_right (by omega) (by omega)
    omega
  generalize hp2 : 2 ^ j = pj at *
  k_dflt ktr_enter
  iterate 13 (first | (k_unfold; (try dsimp only)) | (k_end; wrow_close) | walk1 | (dsimp only; walk1) | (leave1; walk_say "STEP leave1"; try dsimp only) | fail "no step")
  k_dflt (refine hasattr_N (by k_asm) (by k_asm) ?_)
  intro h' F' N'
  k_steps
  refine h _ _ _ (by k_asm) (by k_asm) ⟨⟨_, rfl⟩, ?_⟩
  rw [l2, Str.length_append]
  omega
end
end
section
local macro_rules | `(tactic| walk_at "eval Name") => `(tactic| (k_here; k_dflt (refine' nameX_L ?F ?v ?_ ?a ?b; (case F => k_asm); (case a => rfl); (case b => rfl); (case v => assumption); k_whole)))
local macro_rules | `(tactic| walk_at "callWith ref") => `(tactic| (k_here; k_dflt (refine' callWith_K ?k1 ?k2 ?_; (case k1 => k_asm); (case k2 => assumption); k_whole)))
section
theorem seed11 : True := by
  w_top off
  exact True.intro
section
variable {w : World} {dp un : Nat} {gd : Option (List Code)} {cn : Str} {cs : Scope} {a : Addr} {ccd : Value} {cl : List (Str × Addr)} {outer : List Env} {A₀ : Around} {base h₀ : Heap} {L : Addr} {m : Str → Option Value} {rest : List (Addr × Obj)} {s : Shared}
    {Q E : Value → Shared → Prop} {Q2 : Flow → Shared → Prop} {p : Program} {loose : List Str} {mean : ExcName → Option Value} {mg mb : Str → Option Value}
inductive Vals {α : Type} (V : Nat → α → Value → Prop) (j : Nat) : List Value → List α → Prop
  | nil : Vals V j [] []
  | cons {v : Value} {x : α} {vs : List Value} {xs : List α} : V j x v → Vals V j vs xs → Vals V j (v :: vs) (x :: xs)
theorem Vals.length {α : Type} {V : Nat → α → Value → Prop} {j : Nat} {vs : List Value} {xs : List α} (h : Vals V j vs xs) : vs.length = xs.length := by
  induction h with
  | nil => rfl
  | cons _ _ ih => simp [ih]
theorem Vals.append {α : Type} {V : Nat → α → Value → Prop} {j : Nat} {vs us : List Value} {xs ys : List α} (h : Vals V j vs xs) (h2 : Vals V j us ys) : Vals V j (vs ++ us) (xs ++ ys) := by
  induction h with
  | nil => exact h2
  | cons a _ ih => exact .cons a ih
def pairsR {α : Type} (op : α → α → α) : α → List α → α → List α
  | one, [], first => [op one first]
  | one, after :: r, first => op one after :: pairsR op after r first
def stepR {α : Type} (op : α → α → α) : List α → List α
  | [] => []
  | x :: r => pairsR op x r x
def iterR {α : Type} (op : α → α → α) : Nat → List α → List α
  | 0, l => l
  | n + 1, l => iterR op n (stepR op l)
theorem mem_sw1 {α : Type} {p a : α} {r : List α} : ∀ q ∈ p :: a :: r, q ∈ a :: p :: r := by
  ((repeat' (first | refine List.forall_mem_cons.mpr ⟨?_, ?_⟩ | refine List.forall_mem_append.mpr ⟨?_, ?_⟩)) <;> first | ((repeat (first | exact List.mem_cons_self | refine List.mem_cons_of_mem _ ?_ | refine List.mem_append_right _ ?_)); done) | exact List.forall_mem_nil _ | (intro q hq; (repeat (first | exact hq | exact List.mem_append_left _ hq | refine List.mem_cons_of_mem _ ?_ | refine List.mem_append_right _ ?_)); done))
theorem mem_t3 {α : Type} {p a b c : α} {r : List α} : ∀ q ∈ p :: a :: b :: c :: r, q ∈ a :: b :: c :: p :: r := by
  ((repeat' (first | refine List.forall_mem_cons.mpr ⟨?_, ?_⟩ | refine List.forall_mem_append.mpr ⟨?_, ?_⟩)) <;> first | ((repeat (first | exact List.mem_cons_self | refine List.mem_cons_of_mem _ ?_ | refine List.mem_append_right _ ?_)); done) | exact List.forall_mem_nil _ | (intro q hq; (repeat (first | exact hq | exact List.mem_append_left _ hq | refine List.mem_cons_of_mem _ ?_ | refine List.mem_append_right _ ?_)); done))
theorem mem_u3 {α : Type} {p a b c : α} {r : List α} : ∀ q ∈ a :: b :: c :: p :: r, q ∈ p :: a :: b :: c :: r := by
  ((repeat' (first | refine List.forall_mem_cons.mpr ⟨?_, ?_⟩ | refine List.forall_mem_append.mpr ⟨?_, ?_⟩)) <;> first | ((repeat (first | exact List.mem_cons_self | refine List.mem_cons_of_mem _ ?_ | refine List.mem_append_right _ ?_)); done) | exact List.forall_mem_nil _ | (intro q hq; (repeat (first | exact hq | exact List.mem_append_left _ hq | refine List.mem_cons_of_mem _ ?_ | refine List.mem_append_right _ ?_)); done))
theorem mem_y2 {α : Type} {p a b c : α} {r : List α} : ∀ q ∈ p :: a :: b :: c :: r, q ∈ c :: p :: a :: b :: r := by
  ((repeat' (first | refine List.forall_mem_cons.mpr ⟨?_, ?_⟩ | refine List.forall_mem_append.mpr ⟨?_, ?_⟩)) <;> first | ((repeat (first | exact List.mem_cons_self | refine List.mem_cons_of_mem _ ?_ | refine List.mem_append_right _ ?_)); done) | exact List.forall_mem_nil _ | (intro q hq; (repeat (first | exact hq | exact List.mem_append_left _ hq | refine List.mem_cons_of_mem _ ?_ | refine List.mem_append_right _ ?_)); done))
theorem mem_fing {α : Type} {p d ed cd l1 r sd : α} {g : List α} : ∀ q ∈ p :: r :: d :: g, q ∈ d :: ed :: p :: cd :: l1 :: r :: sd :: g := by
  ((repeat' (first | refine List.forall_mem_cons.mpr ⟨?_, ?_⟩ | refine List.forall_mem_append.mpr ⟨?_, ?_⟩)) <;> first | ((repeat (first | exact List.mem_cons_self | refine List.mem_cons_of_mem _ ?_ | refine List.mem_append_right _ ?_)); done) | exact List.forall_mem_nil _ | (intro q hq; (repeat (first | exact hq | exact List.mem_append_left _ hq | refine List.mem_cons_of_mem _ ?_ | refine List.mem_append_right _ ?_)); done))
theorem mem_x4 {α : Type} {p a x d : α} {l r : List α} (hx : x ∈ l) (hd : d ∈ l) : ∀ q ∈ p :: a :: x :: d :: (l ++ r), q ∈ p :: (l ++ (a :: r)) := by
  intro q hq
  simp only [List.mem_cons, List.mem_append] at hq ⊢
  rcases hq with h | h | h | h | h | h
  · exact .inl h
  · exact .inr (.inr (.inl h))
  · exact .inr (.inl (h ▸ hx))
  · exact .inr (.inl (h ▸ hd))
  · exact .inr (.inl h)
  · exact .inr (.inr (.inr h))
theorem mem_x5 {α : Type} {p a b x d : α} {l r : List α} : ∀ q ∈ p :: (l ++ (a :: b :: r)), q ∈ p :: a :: b :: x :: d :: (l ++ r) := by
  ((repeat' (first | refine List.forall_mem_cons.mpr ⟨?_, ?_⟩ | refine List.forall_mem_append.mpr ⟨?_, ?_⟩)) <;> first | ((repeat (first | exact List.mem_cons_self | refine List.mem_cons_of_mem _ ?_ | refine List.mem_append_right _ ?_)); done) | exact List.forall_mem_nil _ | (intro q hq; (repeat (first | exact hq | exact List.mem_append_left _ hq | refine List.mem_cons_of_mem _ ?_ | refine List.mem_append_right _ ?_)); done))
theorem sub_cons {l G : List (Addr × Obj)} {a : Addr × Obj} (h : ∀ q ∈ l, q ∈ G) : ∀ q ∈ l, q ∈ a :: G := fun q hq => List.mem_cons_of_mem _ (h q hq)
theorem mem_g1 {α : Type} {p : α} {l g : List α} (h : ∀ q ∈ l, q ∈ g) : ∀ q ∈ p :: (l ++ g), q ∈ p :: g := by
  intro q hq
  rcases List.mem_cons.mp hq with rfl | hq
  · exact List.mem_cons_self
  · rcases List.mem_append.mp hq with hq | hq
    · exact List.mem_cons_of_mem _ (h q hq)
    · exact List.mem_cons_of_mem _ hq
theorem mem_g2 {α : Type} {p : α} {l g : List α} : ∀ q ∈ p :: g, q ∈ p :: (l ++ g) := by
  ((repeat' (first | refine List.forall_mem_cons.mpr ⟨?_, ?_⟩ | refine List.forall_mem_append.mpr ⟨?_, ?_⟩)) <;> first | ((repeat (first | exact List.mem_cons_self | refine List.mem_cons_of_mem _ ?_ | refine List.mem_append_right _ ?_)); done) | exact List.forall_mem_nil _ | (intro q hq; (repeat (first | exact hq | exact List.mem_append_left _ hq | refine List.mem_cons_of_mem _ ?_ | refine List.mem_append_right _ ?_)); done))
theorem c_pushG {e : Lx} (ok : e.Ok) {ln : Int} {t1 : Tok} {cv : List Value} {nf np : Nat} {vs : List Value} {v : Value} {G : List (Addr × Obj)}
    (hdp : dp < 400) (hun : un < 200)
    (B : Below A₀ base outer h₀) (F : Fr h₀ L s.heap m) (X : (hd.heap_39 w.params).In h₀) (N : News h₀ L s.heap ((e.pb, W.listOf vs.toArray np) :: G)) (T : Top p loose mean mg mb h₀) (hk : cs.kind = .function)
    (e8 : ∀ p ∈ G, p.1 ≠ e.pb) (hG : ∀ q ∈ lexL e ln t1 cv nf, q ∈ G) (hz : vs.length < 100)
    (h : ∀ h' tk' n', Fr h₀ L h' m → News h₀ L h' ((e.pb, W.listOf (vs ++ [v]).toArray n') :: G) → Q .none { s with heap := h', toks := tk' }) :
    codeAny (model Challenge.rw_pg0080_01.row.prog w) (ktrTop dp un gd cn cs L a ccd cl outer) (.call (.ref 49) ⟨[.ref e.x, v], []⟩) (fun r s' => match r with | .ok (.ret v) => Q v s' | .ok _ => False | .error e => E e s') s :=
  c_push ok hdp hun B F X (news_sub N (mem_g1 hG)) T hk e8 hz fun h' tk' n' F' N' => h h' tk' n' F' (news_sub N' mem_g2)
theorem c_getG {e : Lx} (ok : e.Ok) {ln : Int} {t1 : Tok} {cv : List Value} {nf np : Nat} {vs : List Value} {v : Value} {G : List (Addr × Obj)}
    (hdp : dp < 400) (hun : un < 200)
    (B : Below A₀ base outer h₀) (F : Fr h₀ L s.heap m) (X : (hd.heap_39 w.params).In h₀) (N : News h₀ L s.heap ((e.pb, W.listOf (v :: vs).toArray np) :: G)) (T : Top p loose mean mg mb h₀) (hk : cs.kind = .function)
    (e8 : ∀ p ∈ G, p.1 ≠ e.pb) (hG : ∀ q ∈ lexL e ln t1 cv nf, q ∈ G) (hz : vs.length < 100)
    (h : ∀ h' tk' n', Fr h₀ L h' m → News h₀ L h' ((e.pb, W.listOf vs.toArray n') :: G) → Q v { s with heap := h', toks := tk' }) :
    codeAny (model Challenge.rw_pg0080_01.row.prog w) (ktrTop dp un gd cn cs L a ccd cl outer) (.call (.ref 42) ⟨[.ref e.x], []⟩) (fun r s' => match r with | .ok (.ret v) => Q v s' | .ok _ => False | .error e => E e s') s :=
  c_get_pb ok hdp hun B F X (news_sub N (mem_g1 hG)) T hk e8 hz fun h' tk' n' F' N' => h h' tk' n' F' (news_sub N' mem_g2)
theorem iterR_succ {α : Type} (op : α → α → α) : ∀ (n : Nat) (l : List α), iterR op (n + 1) l = stepR op (iterR op n l)
  | 0, _ => rfl
  | n + 1, l => by
    show iterR op (n + 1) (stepR op l) = stepR op (iterR op n (stepR op l))
    exact iterR_succ op n _
local macro_rules | `(tactic| walk_at "call ref") => `(tactic| (k_here; (with_reducible show wpAny _ _ (call (Value.ref 42) _) _ _ _); k_dflt (refine wpAny_call (c_getG (by assumption) (up_lt (by assumption) (by decide)) (up_lt (by assumption) (by decide)) (by k_asm) (by k_asm) (by k_asm) (by k_asm) (by k_asm) rfl (by k_all) (by repeat (first | assumption | refine sub_cons ?_)) (by first | assumption | omega) ?_)); intro h' tk' n' F' N'))
local macro_rules | `(tactic| walk_at "call ref") => `(tactic| (k_here; (with_reducible show wpAny _ _ (call (Value.ref 49) _) _ _ _); k_dflt (refine wpAny_call (c_pushG (by assumption) (up_lt (by assumption) (by decide)) (up_lt (by assumption) (by decide)) (by k_asm) (by k_asm) (by k_asm) (by k_asm) (by k_asm) rfl (by k_all) (by repeat (first | assumption | refine sub_cons ?_)) (by first | assumption | omega) ?_)); intro h' tk' n' F' N'))
local macro_rules | `(tactic| walk_at "call ref") => `(tactic| (k_here; (rename Deed _ _ _ _ _ => D9); k_dflt (refine wpAny_call (D9 (up_lt (by assumption) (by decide)) (up_lt (by assumption) (by decide)) (by k_asm) (by k_asm) (by k_asm) (by k_asm) (by k_asm) rfl (by assumption) (by assumption) (by assumption) ?_)); intro h' tk' v' F' N' hv'))
theorem c_roundsG {e : Lx} (ok : e.Ok) {α : Type} {V : Nat → α → Value → Prop} {op : α → α → α} {f : Addr} (D : Deed w f α V op) (hkf : keepIn (hd.heap_39 w.params) (.ref f) = true) {ln : Int} {t1 : Tok} {cv : List Value} {nf np nr : Nat} {G : List (Addr × Obj)} {rl : Addr} {vs : List Value} {xs : List α} {k : Nat} {kt : Tok}
    (hdp : dp < 380) (hun : un < 170)
    (B : Below A₀ base outer h₀) (F : Fr h₀ L s.heap m) (X : (hd.heap_39 w.params).In h₀) (N : News h₀ L s.heap ((e.pb, W.listOf ([] : List Value).toArray np) :: (rl, W.listOf vs.toArray nr) :: (e.x, instObj 52 e.dx) :: (e.dx, dictOf (lexD e.H e.k ln t1 (.ref e.st) e.ws e.pb) 4) :: G)) (T : Top p loose mean mg mb h₀) (hk : cs.kind = .function)
    (hv : Vals V 0 vs xs) (hlen : vs.length < 6) (hpos : 0 < vs.length) (hkk : k ≤ 4) (hrl : rl ≠ e.pb)
    (hG : ∀ q ∈ lexL e ln t1 cv nf, q ∈ G) (e8 : ∀ p ∈ G, p.1 ≠ e.pb)
    (h : ∀ h' tk' np' vs' D' nD, Vals V k vs' (iterR op k xs) → Fr h₀ L h' m → News h₀ L h' ((e.pb, W.listOf ([] : List Value).toArray np') :: (rl, W.listOf vs.toArray nr) :: (D', W.listOf vs'.toArray nD) :: (e.x, instObj 52 e.dx) :: (e.dx, dictOf (lexD e.H e.k ln t1 (.ref e.st) e.ws e.pb) 4) :: G) → Q (.ref D') { s with heap := h', toks := tk' }) :
    codeAny (model Challenge.rw_pg0080_01.row.prog w) (ktrTop dp un gd cn cs L a ccd cl outer) (.call (.ref 136) ⟨[.ref e.x, .ref f, .ref rl, .int (k : Int) kt], []⟩) (fun r s' => match r with | .ok (.ret v) => Q v s' | .ok _ => False | .error e => E e s') s := by
  have ord := ok.ord
  have w1 : @Ne Nat e.x e.pb := by omega
  have w2 : @Ne Nat e.dx e.pb := by omega
  clear ord
  k_dflt (refine' code_defC ?k1 ?k2 ?k3 ?k4 ?k5 ?kA ?kF ?kK ?k6 ?k7 ?k8 ?k9 ?kB ?kD ?_ ?c2 ?c3 ?c4; (case kA => exact rfl); (case kF => exact rfl); (case kK => assumption); (case k1 => k_asm); (case k2 => k_asm); (case k3 => k_asm); (case k4 => k_asm); (case k5 => k_asm); (case k6 => k_is); (case k7 => k_is); (case k8 => k_room); (case k9 => exact BindsTo.of_eq rfl); (case kB => exact rfl); (case kD => decide +kernel); (case c2 => exact rfl); (case c3 => exact rfl); (case c4 => exact rfl); k_whole; intro g' L' h' tk' cells' FG' F' N' Y' B' X' T' l1; (try k_lt l1); k_cells Y'; (try simp only [List.cons_append, List.nil_append] at N'); (try dsimp only); (try k_lift B'); (try k_fold))
  rename Obj => oL
  rename News _ _ _ _ => N9
  have N9 := news_sub N9 (mem_sw1)
  iterate 3 (first | (k_unfold; (try dsimp only)) | (k_end; wrow_close) | walk1 | (dsimp only; walk1) | (leave1; walk_say "STEP leave1"; try dsimp only) | fail "no step")
  k_dflt (refine LCg.CompSrc.ledger (by rfl) (by k_asm) N9 (by k_mem) (by rw [PySem.sizeLine_eq]; simp; omega) ?_; intro g9)
  refine comp_J (fun i ys nw => ∃ np', nw = (e.pb, W.listOf (vs.take i).toArray np') :: (L' + 1, oL) :: (rl, W.listOf vs.toArray nr) :: (e.x, instObj 52 e.dx) :: (e.dx, dictOf (lexD e.H e.k ln t1 (.ref e.st) e.ws e.pb) 4) :: G ∧ (∀ y ∈ ys, y = Value.none) ∧ ys.length = i) ⟨np, rfl, by simp, rfl⟩ ?_ ?_
  · intro i ys news₁ v I oI C oC D m₂ h tk E' hi hJ hv hC hx F N off ne
    refine wp_name fun Q9 hQ9 => ?_
    obtain ⟨np', rfl, hys, hyl⟩ := hJ
    obtain ⟨ne1, ne2, ne3⟩ := ne
    have N := news_sub N (mem_t3)
    have hvi : vs[i]? = some v := by simpa using hv
    have htl : (vs.take i).length < 100 := by rw [List.length_take]; omega
    iterate 9 (first | (k_unfold; (try dsimp only)) | (k_end; wrow_close) | walk1 | (dsimp only; walk1) | (leave1; walk_say "STEP leave1"; try dsimp only) | fail "no step")
    refine wpAny_call (c_pushG (dp := dp + 1) (un := un + 3) ok (by omega) (by omega) (by k_asm) (by k_asm) (by k_asm) N (by k_asm) rfl (by k_all) (by repeat (first | assumption | refine sub_cons ?_)) htl ?_)
    intro h' tk' n' F' N'
    k_steps
    refine hQ9 _ _ ?_
    refine LCg.CompEnd.intro (by k_asm) N' ((e.pb, W.listOf (vs.take i ++ [v]).toArray n') :: (L' + 1, oL) :: (rl, W.listOf vs.toArray nr) :: (e.x, instObj 52 e.dx) :: (e.dx, dictOf (lexD e.H e.k ln t1 (.ref e.st) e.ws e.pb) 4) :: G) mem_u3 (off3_keys off rfl) (.inr ⟨_, List.mem_cons_of_mem _ ((List.mem_cons_of_mem _ List.mem_cons_self)), rfl, _, rfl⟩) ⟨n', ?_, ?_, ?_⟩
    · rw [List.take_add_one, hvi]; rfl
    · intro y hy
      rcases List.mem_append.mp hy with hy | hy
      · exact hys y hy
      · exact List.mem_singleton.mp hy
    · simp [hyl]
  · intro ys news₁ hJ
    obtain ⟨np', rfl, hys, hyl⟩ := hJ
    rw [show List.take vs.toArray.size vs = vs by simp]
    unfold LCg.FinA
    intro SD h' tk' F' N' o1'
    have hrSD : ∀ p ∈ G, p.1 ≠ SD := fun p hp => off1_mem o1' p (List.mem_cons_of_mem _ (List.mem_cons_of_mem _ (List.mem_cons_of_mem _ (List.mem_cons_of_mem _ (List.mem_cons_of_mem _ hp)))))
    replace N' := news_sub N' (mem_y2)
    dsimp only
    iterate 1 (first | (k_unfold; (try dsimp only)) | (k_end; wrow_close) | walk1 | (dsimp only; walk1) | (leave1; walk_say "STEP leave1"; try dsimp only) | fail "no step")
    refine for_it ?_
    iterate 7 (first | (k_unfold; (try dsimp only)) | (k_end; wrow_close) | walk1 | (dsimp only; walk1) | (leave1; walk_say "STEP leave1"; try dsimp only) | fail "no step")
    refine loop_range (n := k) (fun i m₁ nw => ∃ (vs1 : List Value) (np1 : Nat) (sv : List Value) (ns : Nat), Vals V i vs1 (iterR op i xs) ∧ vs1.length = vs.length ∧ nw = (e.pb, W.listOf vs1.toArray np1) :: (L' + 1, oL) :: (rl, W.listOf vs.toArray nr) :: (SD, W.listOf sv.toArray ns) :: (e.x, instObj 52 e.dx) :: (e.dx, dictOf (lexD e.H e.k ln t1 (.ref e.st) e.ws e.pb) 4) :: G ∧ (∀ y ∈ sv, y = Value.none) ∧ sv.length ≤ 6 + 6 * i ∧
      m₁ (Str.ofString "deed") = some (.ref f) ∧ m₁ (Str.ofString "ring") = some (.ref rl) ∧ m₁ (Str.ofString "said") = some (.ref SD)) (by rfl) (by assumption) rfl (by omega) (by k_asm) (by k_asm) ?_ ?_ ?_
    · exact ⟨vs, _, ys, _, hv, rfl, rfl, hys, by rw [hyl]; simp; omega, rfl, rfl, rfl⟩
    · intro i t I m₁ nw oI h tk hi hJ F N off
      refine wp_name fun Q9 hQ9 => ?_
      obtain ⟨vs1, np1, sv, ns, hV, hl1, rfl, hsv, hsl, hdeed, hring, hsaid⟩ := hJ
      obtain ⟨v0, vr, rfl⟩ : ∃ v0 vr, vs1 = v0 :: vr := by
        cases vs1 with
        | nil => simp at hl1; omega
        | cons a b => exact ⟨a, b, rfl⟩
      have hvr : vr.length < 100 := by simp at hl1; omega
      have N := news_sub N (mem_sw1)
      clear N9
      have q1 : I ≠ e.pb := Ne.symm (off _ List.mem_cons_self)
      have q2 : SD ≠ e.pb := Ne.symm (off1_mem o1' _ List.mem_cons_self)
      have q3 : SD ≠ I := off _ (List.mem_cons_of_mem _ ((List.mem_cons_of_mem _ (List.mem_cons_of_mem _ List.mem_cons_self))))
      obtain ⟨x0, xr, hxs, hv0, hvR⟩ : ∃ x0 xr, iterR op i xs = x0 :: xr ∧ V i x0 v0 ∧ Vals V i vr xr := by
        generalize iterR op i xs = X9 at hV
        cases hV with
        | cons a b => exact ⟨_, _, rfl, a, b⟩
      have hi4 : i < 4 := by omega
      obtain ⟨nv, hnv⟩ : ∃ nv, vs.toArray.size = nv := ⟨_, rfl⟩
      have hnv1 : nv = vs.length := by rw [← hnv]; simp
      iterate 13 (first | (k_unfold; (try dsimp only)) | (k_end; wrow_close) | walk1 | (dsimp only; walk1) | (leave1; walk_say "STEP leave1"; try dsimp only) | fail "no step")
      refine for_it ?_
      iterate 16 (first | (k_unfold; (try dsimp only)) | (k_end; wrow_close) | walk1 | (dsimp only; walk1) | (leave1; walk_say "STEP leave1"; try dsimp only) | fail "no step")
      refine loop_range (n := vr.length) (fun i2 m₂ nw => ∃ (cur : Value) (xc : α) (rem : List Value) (xrem : List α) (dn : List Value) (xdn : List α) (np2 : Nat) (sv2 : List Value) (ns2 : Nat), V i xc cur ∧ Vals V i rem xrem ∧ Vals V (i + 1) dn xdn ∧ rem.length + i2 = vr.length ∧ dn.length = i2 ∧ xdn ++ pairsR op xc xrem x0 = pairsR op x0 xr x0 ∧
        nw = (e.pb, W.listOf (rem ++ dn).toArray np2) :: (I, oI) :: (L' + 1, oL) :: (rl, W.listOf vs.toArray nr) :: (SD, W.listOf sv2.toArray ns2) :: (e.x, instObj 52 e.dx) :: (e.dx, dictOf (lexD e.H e.k ln t1 (.ref e.st) e.ws e.pb) 4) :: G ∧ (∀ y ∈ sv2, y = Value.none) ∧ sv2.length ≤ 6 + 6 * i + i2 ∧
        m₂ (Str.ofString "deed") = some (.ref f) ∧ m₂ (Str.ofString "ring") = some (.ref rl) ∧ m₂ (Str.ofString "said") = some (.ref SD) ∧ m₂ (Str.ofString "first") = some v0 ∧ m₂ (Str.ofString "one") = some cur) (by rfl) (by assumption) (by simp at hl1; omega) (by omega) (by k_asm) (by k_asm) ?_ ?_ ?_
      · refine ⟨v0, x0, vr, xr, [], [], _, sv, ns, hv0, hvR, .nil, by omega, rfl, rfl, by rw [List.append_nil], hsv, by omega, hdeed, hring, hsaid, rfl, rfl⟩
      · intro i2 t2 I2 m₂ nw oI2 h tk hi2 hJ F N off2
        refine wp_name fun Q9 hQ9 => ?_
        obtain ⟨cur, xc, rem, xrem, dn, xdn, np2, sv2, ns2, hcur, hrem, hdn, hrl2, hdl, heq, rfl, hsv2, hsl2, hdeed2, hring2, hsaid2, hfirst2, hone2⟩ := hJ
        obtain ⟨va, vr2, rfl⟩ : ∃ v0 vr, rem = v0 :: vr := by
          cases rem with
          | nil => simp at hrl2; omega
          | cons a b => exact ⟨a, b, rfl⟩
        cases hrem with
        | cons hva hvr2 =>
        rename_i xa xr2
        have q4 : I2 ≠ e.pb := Ne.symm (off2 _ List.mem_cons_self)
        have q5 : I2 ≠ SD := Ne.symm (off2 _ (List.mem_cons_of_mem _ ((List.mem_cons_of_mem _ (List.mem_cons_of_mem _ (List.mem_cons_of_mem _ List.mem_cons_self))))))
        have hz2 : sv2.toArray.size ≤ sizeLine := by rw [PySem.sizeLine_eq, List.size_toArray]; omega
        have hz1 : (vr2 ++ dn).length < 100 := by simp at hrl2 ⊢; omega
        have N := news_sub N (mem_sw1)
        rw [List.cons_append] at N
        k_steps
        rename Fr _ _ _ _ => F9
        rename News _ _ _ _ => N9
        rename V (i + 1) _ _ => hvn
        rw [List.append_assoc] at N9
        simp only [List.push_toArray] at N9
        refine hQ9 _ _ ?_
        refine ⟨_, _, _, _, rfl, F9, news_sub N9 (mem_sw1), ?_, trivial, va, xa, vr2, xr2, _, xdn ++ [op xc xa], _, sv2 ++ [Value.none], ns2 + 1, hva, hvr2, hdn.append (.cons hvn .nil), ?_, ?_, ?_, rfl, ?_, ?_, hdeed2, hring2, hsaid2, hfirst2, rfl⟩
        · exact keys_ne off2 rfl
        · simp at hrl2 ⊢; omega
        · simp [hdl]
        · rw [← heq, List.append_assoc]; rfl
        · intro y hy
          rcases List.mem_append.mp hy with hy | hy
          · exact hsv2 y hy
          · exact List.mem_singleton.mp hy
        · simp; omega
      · intro m₂ nw h tk hJ F N
        obtain ⟨cur, xc, rem, xrem, dn, xdn, np2, sv2, ns2, hcur, hrem, hdn, hrl2, hdl, heq, rfl, hsv2, hsl2, hdeed2, hring2, hsaid2, hfirst2, hone2⟩ := hJ
        have hrem0 : rem = [] := List.length_eq_zero_iff.mp (by omega)
        subst hrem0
        cases hrem
        have hz2 : sv2.toArray.size ≤ sizeLine := by rw [PySem.sizeLine_eq, List.size_toArray]; omega
        have hz1 : dn.length < 100 := by omega
        rw [List.nil_append] at N
        dsimp only
        k_steps
        rename Fr _ _ _ _ => F9
        rename News _ _ _ _ => N9
        rename V (i + 1) _ _ => hvn
        simp only [List.push_toArray, List.nil_append] at N9
        refine hQ9 _ _ ?_
        refine ⟨_, _, _, _, rfl, F9, news_sub N9 (mem_sw1), ?_, trivial, _, _, sv2 ++ [Value.none], ns2 + 1, ?_, ?_, rfl, ?_, ?_, hdeed2, hring2, hsaid2⟩
        · exact keys_ne off rfl
        · rw [iterR_succ, hxs]
          show Vals V (i + 1) _ (pairsR op x0 xr x0)
          rw [← heq]
          exact hdn.append (.cons hvn .nil)
        · simp at hl1 ⊢; omega
        · intro y hy
          rcases List.mem_append.mp hy with hy | hy
          · exact hsv2 y hy
          · exact List.mem_singleton.mp hy
        · simp at hl1 ⊢; omega
    · intro m₁ nw hp1 tk hJ F N
      obtain ⟨vs1, np1, sv, ns, hV, hl1, rfl, hsv, hsl, hdeed, hring, hsaid⟩ := hJ
      obtain ⟨nv, hnv⟩ : ∃ nv, vs.toArray.size = nv := ⟨_, rfl⟩
      have hnv1 : nv = vs.length := by rw [← hnv]; simp
      dsimp only
      iterate 3 (first | (k_unfold; (try dsimp only)) | (k_end; wrow_close) | walk1 | (dsimp only; walk1) | (leave1; walk_say "STEP leave1"; try dsimp only) | fail "no step")
      k_dflt (refine LCg.ListComp_U (F₀ := by k_asm) (by with_unfolding_all rfl) (by decide) (by rfl) (by decide) (by rfl) ?_)
      iterate 13 (first | (k_unfold; (try dsimp only)) | (k_end; wrow_close) | walk1 | (dsimp only; walk1) | (leave1; walk_say "STEP leave1"; try dsimp only) | fail "no step")
      k_dflt (refine LCg.CompSrc.range (n := nv) (by rfl) (by k_asm) (by k_asm) (by assumption) (rng_small _ (by omega)) (rng_size _) (by rw [PySem.sizeLine_eq]; omega) ?_; intro g9)
      refine comp_J (fun i ys nw => ∃ np', nw = (e.pb, W.listOf (vs1.drop i).toArray np') :: (L' + 1, oL) :: (rl, W.listOf vs.toArray nr) :: (SD, W.listOf sv.toArray ns) :: (e.x, instObj 52 e.dx) :: (e.dx, dictOf (lexD e.H e.k ln t1 (.ref e.st) e.ws e.pb) 4) :: G ∧ ys = vs1.take i) ⟨np1, rfl, rfl⟩ ?_ ?_
      · intro i ys news₁ v I oI C oC D m₂ h tk E' hi hJ hv hC hx F N off ne
        refine wp_name fun Q9 hQ9 => ?_
        obtain ⟨np', rfl, rfl⟩ := hJ
        obtain ⟨ne1, ne2, ne3⟩ := ne
        have hi1 : i < vs1.length := by omega
        rw [List.drop_eq_getElem_cons hi1] at N
        have hz : (vs1.drop (i + 1)).length < 100 := by rw [List.length_drop]; omega
        have N := news_sub N (mem_t3)
        have o3 := off.mem
        have u1 : I ≠ e.pb := Ne.symm (o3 _ List.mem_cons_self).1
        have u2 : C ≠ e.pb := Ne.symm (o3 _ List.mem_cons_self).2.1
        have u3 : D ≠ e.pb := Ne.symm (o3 _ List.mem_cons_self).2.2
        have q2 : SD ≠ e.pb := Ne.symm (off1_mem o1' _ List.mem_cons_self)
        k_steps
        rename News _ _ _ _ => N9
        rename Fr _ _ _ _ => F9
        refine hQ9 _ _ ?_
        refine LCg.CompEnd.intro F9 N9 ((e.pb, W.listOf (vs1.drop (i + 1)).toArray _) :: (L' + 1, oL) :: (rl, W.listOf vs.toArray nr) :: (SD, W.listOf sv.toArray ns) :: (e.x, instObj 52 e.dx) :: (e.dx, dictOf (lexD e.H e.k ln t1 (.ref e.st) e.ws e.pb) 4) :: G) mem_u3 (off3_keys off rfl) trivial ⟨_, rfl, ?_⟩
        rw [List.take_add_one, List.getElem?_eq_getElem hi1]; rfl
      · intro ys news₁ hJ
        obtain ⟨np', rfl, rfl⟩ := hJ
        rw [show vs1.drop nv = [] from List.drop_eq_nil_of_le (by omega), show vs1.take nv = vs1 from List.take_of_length_le (by omega)]
        unfold LCg.FinE
        intro CD h' tk' F' N' o2'
        dsimp only
        replace N' := news_sub N' (mem_sw1)
        k_dflt (refine LCt.ListComp_T (F₀ := by k_asm) (by with_unfolding_all rfl) (by decide) (by rfl) (by decide) (by rfl) ?_)
        iterate 1 (first | (k_unfold; (try dsimp only)) | (k_end; wrow_close) | walk1 | (dsimp only; walk1) | (leave1; walk_say "STEP leave1"; try dsimp only) | fail "no step")
        k_dflt (refine LCt.CompSrcT.ledger (by rfl) (by k_asm) (by k_asm) (by k_mem) (by rw [PySem.sizeLine_eq, List.size_toArray]; omega) ?_; intro g10)
        refine comp_JT (fun i ys nw => ys = [] ∧ nw = (e.pb, W.listOf ([] : List Value).toArray np') :: (CD, LCg.lst vs1) :: (L' + 1, oL) :: (rl, W.listOf vs.toArray nr) :: (SD, W.listOf sv.toArray ns) :: (e.x, instObj 52 e.dx) :: (e.dx, dictOf (lexD e.H e.k ln t1 (.ref e.st) e.ws e.pb) 4) :: G) ⟨rfl, rfl⟩ ?_ ?_
        · intro i ys news₁ v I oI C oC D m₂ h tk E' hi hJ hv hC hx F N off ne
          obtain ⟨rfl, rfl⟩ := hJ
          obtain ⟨ne1, ne2, ne3⟩ := ne
          have hvn : v = Value.none := hsv v (by rw [← Array.mem_def] at *; exact Array.mem_of_getElem? hv)
          subst hvn
          k_steps
          exact LCg.CompEnd.intro F N _ (fun q hq => hq) off (.inr ⟨_, List.mem_cons_of_mem _ ((List.mem_cons_of_mem _ (List.mem_cons_of_mem _ (List.mem_cons_of_mem _ List.mem_cons_self)))), rfl, _, rfl⟩) ⟨rfl, rfl⟩
        · intro ys news₁ hJ
          obtain ⟨rfl, rfl⟩ := hJ
          unfold LCg.FinE
          intro ED h' tk' F' N' o3'
          dsimp only
          k_steps
          rename News _ _ _ _ => N9
          rename Fr _ _ _ _ => F9
          rw [List.append_nil] at N9
          exact h _ _ _ vs1 _ _ hV F9 (news_sub N9 (mem_fing))
theorem c_rounds {e : Lx} (ok : e.Ok) {α : Type} {V : Nat → α → Value → Prop} {op : α → α → α} {f : Addr} (D : Deed w f α V op) (hkf : keepIn (hd.heap_39 w.params) (.ref f) = true) {ln : Int} {t1 : Tok} {cv : List Value} {nf np nr : Nat} {rl : Addr} {vs : List Value} {xs : List α} {k : Nat} {kt : Tok}
    (hdp : dp < 380) (hun : un < 170)
    (B : Below A₀ base outer h₀) (F : Fr h₀ L s.heap m) (X : (hd.heap_39 w.params).In h₀) (N : News h₀ L s.heap ((e.pb, W.listOf ([] : List Value).toArray np) :: (lexL e ln t1 cv nf ++ ((rl, W.listOf vs.toArray nr) :: rest)))) (T : Top p loose mean mg mb h₀) (hk : cs.kind = .function)
    (hv : Vals V 0 vs xs) (hlen : vs.length < 6) (hpos : 0 < vs.length) (hkk : k ≤ 4) (hrl : rl ≠ e.pb)
    (e8 : ∀ p ∈ rest, p.1 ≠ e.pb)
    (h : ∀ h' tk' np' vs' D' nD, Vals V k vs' (iterR op k xs) → Fr h₀ L h' m → News h₀ L h' ((e.pb, W.listOf ([] : List Value).toArray np') :: (lexL e ln t1 cv nf ++ ((rl, W.listOf vs.toArray nr) :: (D', W.listOf vs'.toArray nD) :: rest))) → Q (.ref D') { s with heap := h', toks := tk' }) :
    codeAny (model Challenge.rw_pg0080_01.row.prog w) (ktrTop dp un gd cn cs L a ccd cl outer) (.call (.ref 136) ⟨[.ref e.x, .ref f, .ref rl, .int (k : Int) kt], []⟩) (fun r s' => match r with | .ok (.ret v) => Q v s' | .ok _ => False | .error e => E e s') s := by
  have hpb : ∀ q ∈ lexL e ln t1 cv nf, q.1 ≠ e.pb := by
    have ord := ok.ord
    intro q hq
    simp only [lexL, List.mem_cons, List.not_mem_nil, or_false] at hq
    rcases hq with rfl | rfl | rfl | rfl | rfl | rfl | rfl | rfl <;> refine neN ?_ <;> dsimp only <;> omega
  refine c_roundsG ok D hkf (ln := ln) (t1 := t1) (cv := cv) (nf := nf) hdp hun B F X (news_sub N (mem_x4 (l := lexL e ln t1 cv nf) (by (repeat (first | exact List.mem_cons_self | refine List.mem_cons_of_mem _ ?_ | refine List.mem_append_right _ ?_))) (by (repeat (first | exact List.mem_cons_self | refine List.mem_cons_of_mem _ ?_ | refine List.mem_append_right _ ?_))))) T hk hv hlen hpos hkk hrl (fun q hq => List.mem_append_left _ hq) (List.forall_mem_append.mpr ⟨hpb, e8⟩) ?_
  intro h' tk' np' vs' D' nD hV F' N'
  exact h h' tk' np' vs' D' nD hV F' (news_sub N' (mem_x5 (l := lexL e ln t1 cv nf)))
end
end
section
theorem seed12 : True := by
  w_top off
  exact True.intro
section
variable {w : World} {dp un : Nat} {gd : Option (List Code)} {cn : Str} {cs : Scope} {a : Addr} {ccd : Value} {cl : List (Str × Addr)} {outer : List Env} {A₀ : Around} {base h₀ : Heap} {L : Addr} {m : Str → Option Value} {rest : List (Addr × Obj)} {s : Shared}
    {Q E : Value → Shared → Prop} {Q2 : Flow → Shared → Prop} {p : Program} {loose : List Str} {mean : ExcName → Option Value} {mg mb : Str → Option Value}
section
variable {prog : Program} {w : World} {A : Around} {E : Value → Shared → Prop} {s : Shared} {env : Env} {h₀ : Heap} {L : Addr} {m : Str → Option Value}
theorem fr_but2 {h h' : Heap} {e i : Addr} (F : Fr h₀ L h m) (k : ∀ b o, b ≠ e → b ≠ i → h.get? b = some o → h'.get? b = some o) (h1 : L ≠ e) (h2 : L ≠ i) (n1 : h₀.get? e = none) (n2 : h₀.get? i = none) : Fr h₀ L h' m :=
  ⟨F.ns.at' fun o x => k _ o h1 h2 x, fun b o x => k b o (fun q => by rw [q, n1] at x; cases x) (fun q => by rw [q, n2] at x; cases x) (F.keep b o x), F.above⟩
theorem news_but2 {h h' : Heap} {e i : Addr} {news : List (Addr × Obj)} (N : News h₀ L h news) (k : ∀ b o, b ≠ e → b ≠ i → h.get? b = some o → h'.get? b = some o) (o1 : ∀ p ∈ news, p.1 ≠ e ∧ p.1 ≠ i) : News h₀ L h' news :=
  fun p hp => ⟨k _ _ (o1 p hp).1 (o1 p hp).2 (N p hp).1, (N p hp).2⟩
def SearchEnd (h₀ : Heap) (L e I : Addr) (oe oI : Obj) (news : List (Addr × Obj)) (J : (Str → Option Value) → Prop) (i k : Nat) (s : Shared) (Q : Flow → Shared → Prop) (f : Flow) (s₂ : Shared) : Prop := match f with
  | .ret v => Q (.ret v) s₂
  | .brk => Q .next s₂
  | _ => i < k ∧ ∃ h' tk' m', s₂ = { s with heap := h', toks := tk' } ∧ Fr h₀ L h' m' ∧ News h₀ L h' ((e, oe) :: (I, oI) :: news) ∧ J m'
theorem enum_search {l : Addr} {items : Array Value} {xi xv : Str} {pi pv pt : Pos} {x1} {body orelse : List Stmt} {Q : Flow → Shared → Prop} {k n : Nat} {news : List (Addr × Obj)} (J : (Str → Option Value) → Prop)
    (hh : A.handled = none) (F : Fr h₀ env.locals s.heap m) (N : News h₀ env.locals s.heap news) (hm : (l, W.listOf items n) ∈ news) (hk : k < items.size) (hj : J m)
    (turn : ∀ i v t m₁ e oe I oI h tk, i ≤ k → items[i]? = some v → J m₁ → Fr h₀ env.locals h (fun y => if y = xv then some v else if y = xi then some (.int (i : Int) t) else m₁ y) → News h₀ env.locals h ((e, oe) :: (I, oI) :: news) →
      wpAny (model prog w) A (execs body env) (SearchEnd h₀ env.locals e I oe oI news J i k s Q) E { s with heap := h, toks := tk })
    (hxi : env.kindOf xi = some .local := by rfl) (hxv : env.kindOf xv = some .local := by rfl) (hp : (env.scope.kind == .class || (env.scope.kind == .module && env.locals != env.globals)) = false := by rfl)
    (hE : PassesOwn (model prog w) A env E := by passes_own) :
    wpAny (model prog w) A (call (.type "enumerate") [.ref l]) (fun x s₁ => wpAny (model prog w) A (pyIter x) (fun it s₂ => codeAny (model prog w) A (.forLoop (.Tuple [.Name xi pi, .Name xv pv] x1 pt) it body orelse env)
      (fun r s' => match r with | .ok f => Q f s' | .error e => cameBackBy (model prog w) A env E e s') s₂) E s₁) E s := by
  have hlN := N _ hm
  have hl : s.heap.IsList l items := ⟨_, hlN.1, rfl, n, rfl⟩
  refine call_enumerate_list hl fun h' he hit hz old => ?_
  refine wpAny_pyIter_enum he ?_
  have hLlt : env.locals < s.heap.objs.size := F.ns.lt
  generalize hI : s.heap.objs.size = I at *
  have n1 : h₀.get? (I + 1) = none := by
    cases e : h₀.get? (I + 1) with
    | none => rfl
    | some o => exact absurd (Heap.lt_size (F.keep _ _ e)) (by rw [hI]; exact Nat.not_lt.mpr (Nat.le_succ _))
  have n2 : h₀.get? I = none := by
    cases e : h₀.get? I with
    | none => rfl
    | some o => exact absurd (Heap.lt_size (F.keep _ _ e)) (by rw [hI]; exact Nat.lt_irrefl _)
  have L1 : env.locals ≠ I + 1 := Nat.ne_of_lt (Nat.lt_succ_of_lt hLlt)
  have L2 : env.locals ≠ I := Nat.ne_of_lt hLlt
  have off : ∀ p ∈ news, p.1 ≠ I + 1 ∧ p.1 ≠ I := fun p hp => by
    have := Heap.lt_size (N p hp).1
    rw [hI] at this
    exact ⟨Nat.ne_of_lt (Nat.lt_succ_of_lt this), Nat.ne_of_lt this⟩
  have l1 := off _ hm
  have ei : I + 1 ≠ I := Nat.succ_ne_self I
  refine codeAny_forLoop_any
    (fun j s' => ∃ h tk m₁ i x, s' = { s with heap := h, toks := tk } ∧ IsEnum h (I + 1) I ((i : Nat) : Int) x ∧ h.IsListIter I l i ∧ Fr h₀ env.locals h m₁ ∧ News h₀ env.locals h news ∧ J m₁ ∧ i ≤ k ∧ j = k - i)
    ?_ k ⟨h', s.toks, m, 0, .none, rfl, he, hit, F.keeps old, N.grown old, hj, Nat.zero_le _, rfl⟩
  rintro j s' ⟨h, tk, m₁, i, x, rfl, he', hit', F₁, N₁, hJ, hi, rfl⟩
  have hl' : h.IsList l items := ⟨_, (N₁ _ hm).1, rfl, n, rfl⟩
  have hv : items[i]? = some items[i] := Array.getElem?_eq_getElem (by omega)
  refine wpAny_passesOwn hE ?_
  refine wpAny_pyNext_enum_item he' hit' hl' hv ei fun h₁ ho hit₁ hT hsz hk₁ => ?_
  dsimp only at hsz hT
  have hIlt : I + 1 < h.objs.size := Heap.lt_size he'
  refine wpAny_passesOwn hE (wpAny_letOwnedTupleGo_enum ho fun h₂ he₂ hs₂ => ?_)
  have hs₂ : Heap.SameBut (I + 1) h₁ h₂ := hs₂
  have hT₂ : h₂.IsTuple h.objs.size #[.int (i : Int) tk, items[i]] := ⟨_, (hs₂.2 _ (Nat.ne_of_gt hIlt)).trans hT, rfl, _, rfl⟩
  have z₂ : h₂.objs.size = h.objs.size + 1 := hs₂.1.trans hsz
  have up₂ : ∀ b o, b ≠ I + 1 → b ≠ I → h.get? b = some o → h₂.get? b = some o := fun b o b1 b2 e => (hs₂.2 b b1).trans (hk₁ b o b1 b2 e)
  have F₂ := fr_but2 F₁ up₂ L1 L2 n1 n2
  have N₂ := news_but2 N₁ up₂ off
  refine wpAny_passesOwn hE (wpAny_assign_Tuple hh hT₂ rfl rfl fun h₃ hx₃ => ?_)
  have hx₃ : Heap.ExtBut h₂.objs.size h₂ h₃ := hx₃
  have up₃ : ∀ b o, h₂.get? b = some o → h₃.get? b = some o := fun b o e => hx₃ b o (Nat.ne_of_lt (Heap.lt_size e)) e
  have F₃ := F₂.keeps up₃
  have N₃ := N₂.grown up₃
  have hitG : h₃.IsListIter I l (i + 1) := (hit₁.at fun o e => (hs₂.2 I (Ne.symm ei)).trans e).at fun o e => up₃ _ _ e
  obtain ⟨oe, heG, heR⟩ : ∃ oe, h₃.get? (I + 1) = some oe ∧ ∀ g : Heap, g.get? (I + 1) = some oe → IsEnum g (I + 1) I ((i : Int) + 1) items[i] := ⟨_, up₃ _ _ he₂, fun _ e => e⟩
  show wpAny _ A (do holding [items[i]] (assign (.Name xi pi) env (.int (i : Int) tk)); do holding [] (assign (.Name xv pv) env items[i]); pure ()) _ _ _
  refine wpAny_bind (wpAny_holding (wpAny_assign_Name (wpAny_storeName_local hxi F₃.ns (fun h₄ hn₄ hs₄ => ?_) hp)))
  have F₄ := F₃.set hn₄ hs₄
  refine wpAny_bind (wpAny_holding (wpAny_assign_Name (wpAny_storeName_local hxv F₄.ns (fun h₅ hn₅ hs₅ => wpAny_pure ?_) hp)))
  have F₅ := F₄.set hn₅ hs₅
  have hs₄ : Heap.SameBut env.locals h₃ h₄ := hs₄
  have hs₅ : Heap.SameBut env.locals h₄ h₅ := hs₅
  have up₅ : ∀ b o, b ≠ env.locals → h₃.get? b = some o → h₅.get? b = some o := fun b o bL e => (hs₅.2 b bL).trans ((hs₄.2 b bL).trans e)
  obtain ⟨oI, hoI, hoI2⟩ := hitG
  have N₅ : News h₀ env.locals h₅ ((I + 1, oe) :: (I, oI) :: news) := fun p hp => by
    rcases List.mem_cons.mp hp with rfl | hp
    · exact ⟨up₅ _ _ (Ne.symm L1) heG, Ne.symm L1, n1⟩
    · rcases List.mem_cons.mp hp with rfl | hp
      · exact ⟨up₅ _ _ (Ne.symm L2) hoI, Ne.symm L2, n2⟩
      · exact ⟨up₅ _ _ (N₃ p hp).2.1 (N₃ p hp).1, (N₃ p hp).2⟩
  refine wpAny_passesOwn hE (wpAny_mono (turn i _ tk m₁ (I + 1) oe I oI h₅ _ hi hv hJ F₅ N₅) (fun f s₂ hf => ?_) fun _ _ z => z)
  have fin : (i < k ∧ ∃ h' tk' m', s₂ = { s with heap := h', toks := tk' } ∧ Fr h₀ env.locals h' m' ∧ News h₀ env.locals h' ((I + 1, oe) :: (I, oI) :: news) ∧ J m') → ∃ m, m < k - i ∧ ∃ h tk m₁ i x, s₂ = { s with heap := h, toks := tk } ∧ IsEnum h (I + 1) I ((i : Nat) : Int) x ∧ h.IsListIter I l i ∧ Fr h₀ env.locals h m₁ ∧ News h₀ env.locals h news ∧ J m₁ ∧ i ≤ k ∧ m = k - i := by
    rintro ⟨hlt, h₆, tk₆, m₆, rfl, F₆, N₆, J₆⟩
    refine ⟨k - (i + 1), by omega, h₆, tk₆, m₆, i + 1, items[i], rfl, ?_, ⟨oI, (N₆ (I, oI) (List.mem_cons_of_mem _ List.mem_cons_self)).1, hoI2⟩, F₆, fun p hp => N₆ p (List.mem_cons_of_mem _ (List.mem_cons_of_mem _ hp)), J₆, hlt, rfl⟩
    have e : ((i + 1 : Nat) : Int) = (i : Int) + 1 := by omega
    rw [e]
    exact heR _ (N₆ _ List.mem_cons_self).1
  cases f with
  | next => exact fin hf
  | cont => exact fin hf
  | brk => exact hf
  | ret v => exact hf
theorem is_apart {y z : Str} {u v : Tok} {Q : Value → Shared → Prop} (hu : 0 < u) (hv : 0 < v) (hb : NoneBooked s.heap) (hne : u = v → y = z) (h1 : y = z → Q (.bool true) s) (h2 : Q (.bool false) s) :
    wpAny (model prog w) A (compareOp .Is (.str y u) (.str z v)) Q E s := by
  show wpAny _ A (do return .bool (← isSame.created (y == z) u v)) Q E s
  refine wpAny_bind ?_
  unfold isSame.created
  have hu0 : (u == 0) = false := beq_eq_false_iff_ne.mpr (Nat.ne_of_gt hu)
  have hv0 : (v == 0) = false := beq_eq_false_iff_ne.mpr (Nat.ne_of_gt hv)
  rw [hu0, hv0]
  refine wpAny_ite ?_
  rw [if_neg (by simp)]
  refine wpAny_ite ?_
  by_cases huv : u = v
  · rw [if_pos (beq_iff_eq.mpr huv)]
    exact wpAny_pure (wpAny_pure (h1 (hne huv)))
  rw [if_neg (by simpa using huv)]
  refine wpAny_ite ?_
  by_cases hyz : y = z
  · rw [if_neg (by simp [hyz])]
    refine wpAny_bind (wpAny_sharingNotTold_none hb ?_)
    rw [if_neg (by simp)]
    refine wpAny_bind (wpAny_sharingNotTold_none hb ?_)
    rw [if_neg (by simp)]
    have key : ∀ b : Bool, Q (.bool b) s := fun b => by
      cases b
      · exact h2
      · exact h1 hyz
    exact wpAny_bind (wpAny_rule (wpAny_bind (wpAny_askSetting (wpAny_pure (wpAny_pure (key _))))))
  · rw [if_pos (by simp [hyz])]
    exact wpAny_pure (wpAny_pure h2)
end
theorem cs2 (P : Params) : ∃ o, (hd.heap_39 P).lookup 2 = some o ∧ o.data = .dict #[] := ⟨_, by with_unfolding_all rfl, by with_unfolding_all rfl⟩
theorem booked {h : Heap} (X : (hd.heap_39 w.params).In h) : NoneBooked h := by
  obtain ⟨o, ho, hd⟩ := cs2 w.params
  exact ⟨fun _ => none, ⟨o, #[], _, X _ _ ho, hd, fun e he => absurd he (Array.not_mem_empty e), fun n => rfl⟩, rfl⟩
abbrev txts (l : List (Str × Tok)) : List Value := l.map fun p => .str p.1 p.2
abbrev ixM (l : Addr) (x : Str) (t : Tok) : (Str → Option Value) → Prop := fun m => m (Str.ofString "a") = some (.ref l) ∧ m (Str.ofString "b") = some (.str x t)
theorem booked_keeps {h h' : Heap} (x : NoneBooked h) (k : ∀ b o, h.get? b = some o → h'.get? b = some o) : NoneBooked h' := by
  obtain ⟨mc, ⟨o, es, ep, e, r⟩, hk⟩ := x
  exact ⟨mc, ⟨o, es, ep, k _ _ e, r⟩, hk⟩
theorem c_index {nl : Addr} {l : List (Str × Tok)} {x : Str} {t : Tok} {nn k : Nat}
    (hdp : dp < 400) (hun : un < 200)
    (B : Below A₀ base outer h₀) (F : Fr h₀ L s.heap m) (X : (hd.heap_39 w.params).In h₀) (N : News h₀ L s.heap ((nl, W.listOf (txts l).toArray nn) :: rest)) (T : Top p loose mean mg mb h₀) (hk : cs.kind = .function)
    (hx : l[k]? = some (x, t)) (hl : ∀ q ∈ l, 0 < q.2) (hd : ∀ q ∈ l, ∀ r ∈ l, q.2 = r.2 → q.1 = r.1) (hi : ∀ i q, i < k → l[i]? = some q → q.1 ≠ x)
    (h : ∀ h' tk' t', Fr h₀ L h' m → News h₀ L h' ((nl, W.listOf (txts l).toArray nn) :: rest) → Q (.int (k : Int) t') { s with heap := h', toks := tk' }) :
    codeAny (model Challenge.rw_pg0080_01.row.prog w) (ktrTop dp un gd cn cs L a ccd cl outer) (.call (.ref 119) ⟨[.ref nl, .str x t], []⟩) (fun r s' => match r with | .ok (.ret v) => Q v s' | .ok _ => False | .error e => E e s') s := by
  have ht : 0 < t := hl (x, t) (List.mem_of_getElem? hx)
  k_dflt ktr_enter
  rename Frag.In _ _ => X9
  have nb := booked X9
  iterate 1 (first | (k_unfold; (try dsimp only)) | (k_end; wrow_close) | walk1 | (dsimp only; walk1) | (leave1; walk_say "STEP leave1"; try dsimp only) | fail "no step")
  refine wpAny_For ?_
  iterate 6 (first | (k_unfold; (try dsimp only)) | (k_end; wrow_close) | walk1 | (dsimp only; walk1) | (leave1; walk_say "STEP leave1"; try dsimp only) | fail "no step")
  refine enum_search (k := k) (ixM nl x t) rfl (by k_asm) (by k_asm) (by k_mem) (by simpa using (List.getElem?_eq_some_iff.mp hx).1) ⟨rfl, rfl⟩ ?_
  intro i v t₁ m₁ e oe I oI h₁ tk₁ hik hv hJ F' N'
  obtain ⟨⟨y, u⟩, hq, rfl⟩ : ∃ q, l[i]? = some q ∧ v = .str q.1 q.2 := by
    rw [List.getElem?_toArray, List.getElem?_map] at hv
    cases hq : l[i]? with
    | none => rw [hq] at hv; cases hv
    | some q => rw [hq] at hv; exact ⟨q, rfl, (Option.some.inj hv).symm⟩
  obtain ⟨ha, hb⟩ := hJ
  dsimp only at hv F'
  have hqm := List.mem_of_getElem? hq
  have hu : 0 < u := hl _ hqm
  have hne : u = t → y = x := hd _ hqm (x, t) (List.mem_of_getElem? hx)
  iterate 6 (first | (k_unfold; (try dsimp only)) | (k_end; wrow_close) | walk1 | (dsimp only; walk1) | (leave1; walk_say "STEP leave1"; try dsimp only) | fail "no step")
  k_dflt (refine is_apart (by assumption) (by assumption) (booked_keeps (by assumption) (Fr.keep (L := _) (m := _) (by k_asm))) (by assumption) ?_ ?_)
  all_goals k_steps
  · rename y = x => e9
    have hik' : i = k := by
      rcases Nat.lt_or_ge i k with z | z
      · exact absurd e9 (hi i _ z hq)
      · omega
    subst hik'
    dsimp only [SearchEnd]
    k_steps
    rename News _ _ _ _ => N9
    exact h _ _ _ (by k_asm) (fun q hq => N9 q (List.mem_cons_of_mem _ (List.mem_cons_of_mem _ hq)))
  · rename (y == x) = true => e9
    have e9 := eq_of_beq e9
    have hik' : i = k := by
      rcases Nat.lt_or_ge i k with z | z
      · exact absurd e9 (hi i _ z hq)
      · omega
    subst hik'
    dsimp only [SearchEnd]
    k_steps
    rename News _ _ _ _ => N9
    exact h _ _ _ (by k_asm) (fun q hq => N9 q (List.mem_cons_of_mem _ (List.mem_cons_of_mem _ hq)))
  · have hlt : i < k := by
      rcases Nat.lt_or_ge i k with z | z
      · exact z
      · obtain rfl : i = k := by omega
        rw [hx] at hq
        cases hq
        rename (_ == _) = false => e9
        exact absurd e9 (by simp)
    exact ⟨hlt, _, _, _, rfl, F', N', ha, hb⟩
end
end
section
theorem seed13 : True := by
  w_top off
  exact True.intro
section
variable {w : World} {dp un : Nat} {gd : Option (List Code)} {cn : Str} {cs : Scope} {a : Addr} {ccd : Value} {cl : List (Str × Addr)} {outer : List Env} {A₀ : Around} {base h₀ : Heap} {L : Addr} {m : Str → Option Value} {rest : List (Addr × Obj)} {s : Shared}
    {Q E : Value → Shared → Prop} {Q2 : Flow → Shared → Prop} {p : Program} {loose : List Str} {mean : ExcName → Option Value} {mg mb : Str → Option Value}
section
variable {prog : Program} {w : World} {A : Around} {E : Value → Shared → Prop} {s : Shared} {h₀ : Heap} {L : Addr} {m : Str → Option Value} {news : List (Addr × Obj)}
theorem item_in {value slice : PySem.Expr} {l : Addr} {vs : List Value} {k : Int} {u : Tok} {n j : Nat} {v : Value} {Q : Value → Shared → Prop} (N : News h₀ L s.heap news) (hm : (l, W.listOf vs.toArray n) ∈ news) (hk : k = (j : Int)) (hj : j < 1000)
    (hx : vs[j]? = some v) (h : Q v s) (hs : subscripted slice false (.ref l) (.int k u) = operate [.ref l, .int k u] (getItem (.ref l) (.int k u)) := by with_unfolding_all rfl) :
    wpAny (model prog w) A (subscriptTail value slice (.ref l) (.int k u)) Q E s := by
  have hl : s.heap.IsList l vs.toArray := ⟨_, (N _ hm).1, rfl, n, rfl⟩
  refine tail_any hl.typeIs slot_list_getitem.lookup (wpAny_getItem_list hl (by omega) (by omega) ?_ h) hs
  rw [hk, Int.toNat_natCast]
  simpa using hx
theorem tup_in {value slice : PySem.Expr} {l : Addr} {vs : List Value} {k : Int} {u : Tok} {n j : Nat} {v : Value} {Q : Value → Shared → Prop} (N : News h₀ L s.heap news) (hm : (l, ({ cls := .type "tuple", data := .seq vs.toArray n } : Obj)) ∈ news) (hk : k = (j : Int)) (hj : j < 1000)
    (hx : vs[j]? = some v) (h : Q v s) (hs : subscripted slice false (.ref l) (.int k u) = operate [.ref l, .int k u] (getItem (.ref l) (.int k u)) := by with_unfolding_all rfl) :
    wpAny (model prog w) A (subscriptTail value slice (.ref l) (.int k u)) Q E s := by
  have ht : IsTup s.heap l vs.toArray := ⟨_, (N _ hm).1, rfl, _, rfl⟩
  have hjl : j < vs.length := (List.getElem?_eq_some_iff.mp hx).1
  refine item_tupleT ht (by omega) (by omega) (j := j) ?_ hx h hs
  subst hk
  simp [seqIndex?]
  omega
end
theorem c_item {tl : Addr} {vs : List Value} {n k : Nat} {v : Value} {kt : Tok}
    (hdp : dp < 400) (hun : un < 200)
    (B : Below A₀ base outer h₀) (F : Fr h₀ L s.heap m) (X : (hd.heap_39 w.params).In h₀) (N : News h₀ L s.heap ((tl, ({ cls := .type "tuple", data := .seq vs.toArray n } : Obj)) :: rest)) (T : Top p loose mean mg mb h₀) (hk : cs.kind = .function)
    (hx : vs[k]? = some v) (hj : k < 1000)
    (h : ∀ h' tk', Fr h₀ L h' m → News h₀ L h' ((tl, ({ cls := .type "tuple", data := .seq vs.toArray n } : Obj)) :: rest) → Q v { s with heap := h', toks := tk' }) :
    codeAny (model Challenge.rw_pg0080_01.row.prog w) (ktrTop dp un gd cn cs L a ccd cl outer) (.call (.ref 112) ⟨[.ref tl, .int (k : Int) kt], []⟩) (fun r s' => match r with | .ok (.ret v) => Q v s' | .ok _ => False | .error e => E e s') s := by
  k_dflt ktr_enter
  iterate 6 (first | (k_unfold; (try dsimp only)) | (k_end; wrow_close) | walk1 | (dsimp only; walk1) | (leave1; walk_say "STEP leave1"; try dsimp only) | fail "no step")
  refine tup_in (by k_asm) (by k_mem) rfl hj hx ?_
  k_steps
  rename News _ _ _ _ => N9
  exact h _ _ (by k_asm) N9
end
end
section
theorem seed14 : True := by
  w_top off
  exact True.intro
section
variable {w : World} {dp un : Nat} {gd : Option (List Code)} {cn : Str} {cs : Scope} {a : Addr} {ccd : Value} {cl : List (Str × Addr)} {outer : List Env} {A₀ : Around} {base h₀ : Heap} {L : Addr} {m : Str → Option Value} {rest : List (Addr × Obj)} {s : Shared}
    {Q E : Value → Shared → Prop} {Q2 : Flow → Shared → Prop} {p : Program} {loose : List Str} {mean : ExcName → Option Value} {mg mb : Str → Option Value}
section
variable {prog : Program} {w : World} {A : Around} {E : Value → Shared → Prop} {s : Shared} {env : Env} {h₀ : Heap} {L : Addr} {m : Str → Option Value}
def SignEnd (h₀ : Heap) (L I : Addr) (oI : Obj) (news : List (Addr × Obj)) (J : (Str → Option Value) → Prop) (s : Shared) (Q : Flow → Shared → Prop) (f : Flow) (s₂ : Shared) : Prop := match f with
  | .ret v => Q (.ret v) s₂
  | .brk => Q .next s₂
  | _ => ∃ h' tk' m', s₂ = { s with heap := h', toks := tk' } ∧ Fr h₀ L h' m' ∧ News h₀ L h' ((I, oI) :: news) ∧ J m'
theorem signs_loop {I : Addr} {x : Str} {t : Tok} {ty : String} {xv : Str} {body : List Stmt} {Q : Flow → Shared → Prop} {lo : Nat} {news : List (Addr × Obj)} (J : Nat → (Str → Option Value) → Prop)
    (item : ∀ (i c : Nat) (s : Shared) (Q : Option Value → Shared → Prop) (E : Value → Shared → Prop), s.heap.IsStrIter I ty x t i → x.cps[i]? = some c →
      (∀ h', h'.IsStrIter I ty x t (i + 1) → Heap.SameBut I s.heap h' → Q (some (.str ⟨#[c]⟩ s.toks)) { s with heap := h', toks := s.toks + 1 }) → wpAny (model prog w) A (pyNext (.ref I)) Q E s)
    (stop : ∀ (i : Nat) (s : Shared) (Q : Option Value → Shared → Prop) (E : Value → Shared → Prop), s.heap.IsStrIter I ty x t i → x.cps[i]? = none →
      (∀ h', Heap.ExtBut I s.heap h' → Q none { s with heap := h' }) → wpAny (model prog w) A (pyNext (.ref I)) Q E s)
    (hit : s.heap.IsStrIter I ty x t 0) (F : Fr h₀ env.locals s.heap m) (N : News h₀ env.locals s.heap news) (off : ∀ p ∈ news, p.1 ≠ I) (hIL : env.locals ≠ I) (hI₀ : h₀.get? I = none) (hlo : lo ≤ s.toks) (hj : J 0 m)
    (turn : ∀ i c u m₁ oI h tk, x.cps[i]? = some c → @LE.le Nat _ lo u → J i m₁ → Fr h₀ env.locals h (fun y => if y = xv then some (.str ⟨#[c]⟩ u) else m₁ y) → News h₀ env.locals h ((I, oI) :: news) →
      wpAny (model prog w) A (execs body env) (SignEnd h₀ env.locals I oI news (J (i + 1)) s Q) E { s with heap := h, toks := tk })
    (done : ∀ m₁ h tk, J x.cps.size m₁ → Fr h₀ env.locals h m₁ → News h₀ env.locals h news → Q .next { s with heap := h, toks := tk })
    (hx : env.kindOf xv = some .local) (hp : (env.scope.kind == .class || (env.scope.kind == .module && env.locals != env.globals)) = false) :
    itRest prog w A E env xv body Q I (x.cps.size + 1) s := by
  have key : ∀ (k i : Nat) (m₁ : Str → Option Value) (h : Heap) (tk : Nat), i + k = x.cps.size → h.IsStrIter I ty x t i → @LE.le Nat _ lo tk → Fr h₀ env.locals h m₁ → News h₀ env.locals h news → J i m₁ →
      itRest prog w A E env xv body Q I (k + 1) { s with heap := h, toks := tk } := by
    intro k
    induction k with
    | zero =>
      intro i m₁ h tk hi st htk F₁ N₁ J₁
      obtain rfl : i = x.cps.size := by omega
      refine itRest.succ (stop _ _ _ _ st (Array.getElem?_eq_none (Nat.le_refl _)) fun h' hk => ?_)
      exact done m₁ h' tk J₁ ⟨F₁.ns.at' fun o e => hk _ o hIL e, fun b o e => hk b o (fun q => by rw [q, hI₀] at e; cases e) (F₁.keep b o e), F₁.above⟩ (fun p hp => ⟨hk _ _ (off p hp) (N₁ p hp).1, (N₁ p hp).2⟩)
    | succ k ih =>
      intro i m₁ h tk hi st htk F₁ N₁ J₁
      have hc : x.cps[i]? = some x.cps[i] := Array.getElem?_eq_getElem (by omega)
      refine itRest.succ (item _ _ _ _ _ st hc fun h' st' hs => ?_)
      have hk : ∀ b o, b ≠ I → h.get? b = some o → h'.get? b = some o := fun b o hb e => hs.extBut b o hb e
      have F₂ : Fr h₀ env.locals h' m₁ := ⟨F₁.ns.at' fun o e => hk _ o hIL e, fun b o e => hk b o (fun q => by rw [q, hI₀] at e; cases e) (F₁.keep b o e), F₁.above⟩
      have N₂ : News h₀ env.locals h' news := fun p hp => ⟨hk _ _ (off p hp) (N₁ p hp).1, (N₁ p hp).2⟩
      show wpAny _ _ (storeName env xv _) _ _ _
      refine wpAny_storeName_local hx F₂.ns (fun h₃ hn₃ hs₃ => ?_) hp
      have F₃ := F₂.set hn₃ hs₃
      have hs₃ : Heap.SameBut env.locals h' h₃ := hs₃
      obtain ⟨oI, hoI, hoI2⟩ := st'
      have N₃ : News h₀ env.locals h₃ ((I, oI) :: news) := fun p hp => by
        rcases List.mem_cons.mp hp with rfl | hp
        · exact ⟨(hs₃.2 _ hIL.symm).trans hoI, hIL.symm, hI₀⟩
        · exact ⟨(hs₃.2 _ (N₂ p hp).2.1).trans (N₂ p hp).1, (N₂ p hp).2⟩
      refine wpAny_mono (wpAny_toks_of (n := lo) (show @LE.le Nat _ lo (tk + 1 + 1) by omega) (turn i x.cps[i] tk m₁ oI h₃ _ hc htk J₁ F₃ N₃)) (fun f s₄ h₄ => ?_) fun _ _ z => z.2
      obtain ⟨hl₄, h₄⟩ := h₄
      have fin : (∃ h' tk' m', s₄ = { s with heap := h', toks := tk' } ∧ Fr h₀ env.locals h' m' ∧ News h₀ env.locals h' ((I, oI) :: news) ∧ J (i + 1) m') → itRest prog w A E env xv body Q I (k + 1) s₄ := by
        rintro ⟨h₅, tk₅, m₅, rfl, F₅, N₅, J₅⟩
        exact ih (i + 1) m₅ h₅ tk₅ (by omega) ⟨oI, (N₅ _ List.mem_cons_self).1, hoI2⟩ hl₄ F₅ (fun p hp => N₅ p (List.mem_cons_of_mem _ hp)) J₅
      cases f with
      | next => exact fin h₄
      | cont => exact fin h₄
      | brk => exact h₄
      | ret v => exact h₄
  exact key x.cps.size 0 m s.heap s.toks (by omega) hit hlo F N hj
theorem loop_signs {x : Str} {t : Tok} {xv : Str} {body : List Stmt} {Q : Flow → Shared → Prop} {lo : Nat} {news : List (Addr × Obj)} (J : Nat → (Str → Option Value) → Prop)
    (hh : A.handled = none) (F : Fr h₀ env.locals s.heap m) (N : News h₀ env.locals s.heap news) (hlo : lo ≤ s.toks) (hj : J 0 m)
    (turn : ∀ i c u m₁ I oI h tk, x.cps[i]? = some c → @LE.le Nat _ lo u → J i m₁ → Fr h₀ env.locals h (fun y => if y = xv then some (.str ⟨#[c]⟩ u) else m₁ y) → News h₀ env.locals h ((I, oI) :: news) →
      wpAny (model prog w) A (execs body env) (SignEnd h₀ env.locals I oI news (J (i + 1)) s Q) E { s with heap := h, toks := tk })
    (done : ∀ m₁ h tk, J x.cps.size m₁ → Fr h₀ env.locals h m₁ → News h₀ env.locals h news → Q .next { s with heap := h, toks := tk })
    (hx : env.kindOf xv = some .local := by rfl) (hp : (env.scope.kind == .class || (env.scope.kind == .module && env.locals != env.globals)) = false := by rfl) :
    wpAny (model prog w) A (pyIter (.str x t)) (itAt prog w A E env xv body Q) E s := by
  have up : ∀ (o : Obj) b q, s.heap.get? b = some q → (s.heap.push o).get? b = some q := fun o b q e => Heap.get?_push_of_some _ e
  have off : ∀ p ∈ news, p.1 ≠ s.heap.objs.size := fun p hp => Nat.ne_of_lt (Heap.lt_size (N p hp).1)
  have hI₀ : h₀.get? s.heap.objs.size = none := by
    cases e : h₀.get? s.heap.objs.size with
    | none => rfl
    | some o => exact absurd (Heap.lt_size (F.keep _ _ e)) (Nat.lt_irrefl _)
  cases ha : x.cps.all (· < 128)
  · refine wpAny_pyIter_wide ha (itAt.intro (x.cps.size + 1) ?_)
    exact signs_loop (s := { s with heap := s.heap.push _ }) J (fun i c s Q E st hc hQ => wpAny_pyNext_wide_item st hc hQ) (fun i s Q E st hc hQ => wpAny_pyNext_wide_end hh st hc hQ) ⟨_, Heap.get?_push_size _ rfl, rfl, rfl⟩
      (F.keeps (up _)) (N.grown (up _)) off (Nat.ne_of_lt F.ns.lt) hI₀ hlo hj (fun i c u m₁ oI h tk => turn i c u m₁ _ oI h tk) done hx hp
  · refine wpAny_pyIter_ascii ha (itAt.intro (x.cps.size + 1) ?_)
    exact signs_loop (s := { s with heap := s.heap.push _ }) J (fun i c s Q E st hc hQ => wpAny_pyNext_ascii_item st hc hQ) (fun i s Q E st hc hQ => wpAny_pyNext_ascii_end hh st hc hQ) ⟨_, Heap.get?_push_size _ rfl, rfl, rfl⟩
      (F.keeps (up _)) (N.grown (up _)) off (Nat.ne_of_lt F.ns.lt) hI₀ hlo hj (fun i c u m₁ oI h tk => turn i c u m₁ _ oI h tk) done hx hp
end
local macro_rules | `(tactic| walk_at "loadName") => `(tactic| (k_here; k_dflt (refine' wpAny_loadName_local ?a ?b (Fr.ns ?F) ?v ?_; (case a => rfl); (case b => rfl); (case F => k_asm); (case v => assumption); k_whole)))
theorem count_step {l : List Nat} {i c c0 : Nat} (h : l[i]? = some c) : (l.take (i + 1)).count c0 = (l.take i).count c0 + if c = c0 then 1 else 0 := by
  rw [List.take_add_one, h, List.count_append]
  by_cases e : c = c0 <;> simp [e]
theorem c_count {x : Str} {t u : Tok} {c0 : Nat}
    (hdp : dp < 400) (hun : un < 200)
    (B : Below A₀ base outer h₀) (F : Fr h₀ L s.heap m) (X : (hd.heap_39 w.params).In h₀) (N : News h₀ L s.heap rest) (T : Top p loose mean mg mb h₀) (hk : cs.kind = .function)
    (hu : @LT.lt Nat _ 0 u) (hut : @LT.lt Nat _ u s.toks) (hx : x.cps.size < 4000)
    (h : ∀ h' tk' t', Fr h₀ L h' m → News h₀ L h' rest → Q (.int (x.cps.toList.count c0 : Nat) t') { s with heap := h', toks := tk' }) :
    codeAny (model Challenge.rw_pg0080_01.row.prog w) (ktrTop dp un gd cn cs L a ccd cl outer) (.call (.ref 105) ⟨[.str x t, .str ⟨#[c0]⟩ u], []⟩) (fun r s' => match r with | .ok (.ret v) => Q v s' | .ok _ => False | .error e => E e s') s := by
  k_dflt ktr_enter
  rename Frag.In _ _ => X9
  have nb := booked X9
  iterate 5 (first | (k_unfold; (try dsimp only)) | (k_end; wrow_close) | walk1 | (dsimp only; walk1) | (leave1; walk_say "STEP leave1"; try dsimp only) | fail "no step")
  refine for_it ?_
  iterate 1 (first | (k_unfold; (try dsimp only)) | (k_end; wrow_close) | walk1 | (dsimp only; walk1) | (leave1; walk_say "STEP leave1"; try dsimp only) | fail "no step")
  refine loop_signs (lo := u + 1) (fun i m₁ => m₁ (Str.ofString "b") = some (.str ⟨#[c0]⟩ u) ∧ ∃ t', m₁ (Str.ofString "count") = some (.int ((x.cps.toList.take i).count c0 : Nat) t')) rfl (by k_asm) (by k_asm) (by show @LE.le Nat _ (u + 1) (s.toks + _ + 1 + 1); omega) ⟨rfl, _, rfl⟩ ?_ ?_
  · intro i c v m₁ I oI h₁ tk₁ hc hv hJ F' N'
    obtain ⟨hb, t', hcount⟩ := hJ
    have hv0 : @LT.lt Nat _ 0 v := by omega
    have hne : v = u → (⟨#[c]⟩ : Str) = ⟨#[c0]⟩ := fun e => absurd hv (by rw [e]; omega)
    have hci : x.cps.toList[i]? = some c := by simpa using hc
    iterate 6 (first | (k_unfold; (try dsimp only)) | (k_end; wrow_close) | walk1 | (dsimp only; walk1) | (leave1; walk_say "STEP leave1"; try dsimp only) | fail "no step")
    k_dflt (refine is_apart (by assumption) (by assumption) (booked_keeps (by assumption) (Fr.keep (L := _) (m := _) (by k_asm))) (by assumption) ?_ ?_)
    all_goals k_steps
    · rename (_ : Str) = _ => e9
      have e9 : c = c0 := by simpa using e9
      rename Fr _ _ _ _ => F9
      rename News _ _ _ _ => N9
      have e8 : (((x.cps.toList.take i).count c0 : Nat) : Int) + 1 = ((x.cps.toList.take (i + 1)).count c0 : Nat) := by rw [count_step hci, if_pos e9]; rfl
      rw [e8] at F9
      exact ⟨_, _, _, rfl, F9, N9, hb, _, rfl⟩
    · rename (_ == _) = true => e9
      have e9 : c = c0 := by simpa using eq_of_beq e9
      rename Fr _ _ _ _ => F9
      rename News _ _ _ _ => N9
      have e8 : (((x.cps.toList.take i).count c0 : Nat) : Int) + 1 = ((x.cps.toList.take (i + 1)).count c0 : Nat) := by rw [count_step hci, if_pos e9]; rfl
      rw [e8] at F9
      exact ⟨_, _, _, rfl, F9, N9, hb, _, rfl⟩
    · rename (_ == _) = false => e9
      have e9 : ¬ c = c0 := by
        rintro rfl
        exact absurd e9 (by simp)
      refine ⟨_, _, _, rfl, F', N', hb, t', ?_⟩
      rw [count_step hci, if_neg e9]
      exact hcount
  · intro m₁ h₁ tk₁ hJ F' N'
    obtain ⟨hb, t', hcount⟩ := hJ
    k_steps
    rename News _ _ _ _ => N9
    have e : List.take x.cps.size x.cps.toList = x.cps.toList := List.take_of_length_le (by simp)
    rw [e]
    exact h _ _ _ (by k_asm) N9
end
end
section
theorem seed15 : True := by
  w_top off
  exact True.intro
section
variable {w : World} {dp un : Nat} {gd : Option (List Code)} {cn : Str} {cs : Scope} {a : Addr} {ccd : Value} {cl : List (Str × Addr)} {outer : List Env} {A₀ : Around} {base h₀ : Heap} {L : Addr} {m : Str → Option Value} {rest : List (Addr × Obj)} {s : Shared}
    {Q E : Value → Shared → Prop} {Q2 : Flow → Shared → Prop} {p : Program} {loose : List Str} {mean : ExcName → Option Value} {mg mb : Str → Option Value}
section
variable {prog : Program} {w : World} {A : Around} {E : Value → Shared → Prop} {s : Shared} {h₀ : Heap} {L : Addr} {m : Str → Option Value} {env : Env}
theorem comp_signs {elt iter : PySem.Expr} {x : Str} {px : Pos} {scope : Scope} {cl : List (Str × Addr)} {pos : Pos} {Q : Value → Shared → Prop} (F₀ : Fr h₀ L s.heap m)
    (hclos : closureFor scope env = pure cl) (hcell : ∀ y ∈ scope.names, y.2 ≠ .cell) (hkind : scope.kind = .function)
    (hnames : ∀ y ∈ scope.names, y.2 = .local → scope.names.lookup y.1 = some .local) (hx : scope.names.lookup x = some .local)
    (h : wpAny (model prog w) A (eval iter env) (fun xv s₁ => ∃ y t news, xv = .str y t ∧ A.handled = none ∧ Fr h₀ L s₁.heap m ∧ News h₀ L s₁.heap news ∧ y.cps.size ≤ sizeLine ∧
      ∀ g, LCg.CompRest prog w A h₀ L m env elt x scope cl { s₁ with heap := g } (fun _ => True) (SignAt y) (LCg.FinE h₀ L m { s₁ with heap := g } Q) y.cps.size 0 [] news) E s)
    (hs : ∀ x, foldedSetIterable iter env x = pure x := by intro _; rfl) :
    wpAny (model prog w) A (eval (.ListComp elt [⟨.Name x px, iter, [], 0⟩] scope pos) env) Q E s := by
  rw [eval_ListComp]
  refine wpAny_comprehension_free (use := none) rfl hs hclos hkind hnames (wpAny_mono h (fun xv s₁ h₁ => ?_) fun _ _ e => e)
  obtain ⟨y, t, news, rfl, hh, F, N, hsz, R⟩ := h₁
  have up : ∀ (o : Obj) b q, s₁.heap.get? b = some q → (s₁.heap.push o).get? b = some q := fun o b q e => Heap.get?_push_of_some _ e
  have off : ∀ p ∈ news, p.1 ≠ s₁.heap.objs.size := fun p hp => Nat.ne_of_lt (Heap.lt_size (N p hp).1)
  have fpl : ∀ (o : Obj), ∀ b ∈ [s₁.heap.objs.size], b < (s₁.heap.push o).objs.size := fun o b hb => by
    rw [List.mem_singleton.mp hb, Heap.size_push]
    exact Nat.lt_succ_self _
  have st : ∀ (ty : String) (i : Nat) (h h' : Heap) (o : Obj) (nw : List (Addr × Obj)), h.IsStrIter s₁.heap.objs.size ty y t i → h.get? s₁.heap.objs.size = some o → h'.get? s₁.heap.objs.size = some o → (∀ b o, h₀.get? b = some o → h'.get? b = some o) → News h₀ L h' nw → True → h'.IsStrIter s₁.heap.objs.size ty y t i := by
    intro ty i h h' o nw z e e' _ _ _
    obtain ⟨o', q, r⟩ := z
    rw [e] at q
    cases q
    exact ⟨o, e', r⟩
  have last : ∀ (s₂ : Shared) (D C : Addr) (h : Heap) (tk : Nat) (m' : Str → Option Value) (ys : List Value) (news' : List (Addr × Obj)), Fr h₀ L h m → News h₀ L h ((D, LCg.lst ys) :: news') → LCg.Off1 D news' → h.Ns C m' → h₀.get? C = none → h₀.get? D = none → C ≠ L → D ≠ L → C ≠ D → (∀ p ∈ news', p.1 ≠ C) → LCg.FinE h₀ L m s₂ Q ys news' →
      ∃ m', h.Ns C m' ∧ ∀ h'', Heap.SameBut C h h'' → Q (.ref D) { s₂ with heap := h'', toks := tk } := by
    intro s₂ D C h tk m' ys news' F' N' o1 hn hC₀ hD₀ hCL hDL hCD offC fin
    refine ⟨m', hn, fun h'' hs'' => fin D h'' tk (F'.change hs'' hCL hC₀) (fun p hp => ⟨hs''.extBut _ _ ?_ (N' p hp).1, (N' p hp).2⟩) o1⟩
    rcases List.mem_cons.mp hp with rfl | hp
    · exact Ne.symm hCD
    · exact offC p hp
  cases ha : y.cps.all (· < 128)
  · refine wpAny_pyIter_wide ha ?_
    exact LCg.block_U (Walks.strWide hh s₁.heap.objs.size y t) hsz (fun i h z => let ⟨o, e, _⟩ := z; ⟨o, e⟩) (st _) hcell hkind hx ⟨_, Heap.get?_push_size _ rfl, rfl, rfl⟩ (fpl _) (F.keeps (up _)) (N.grown (up _)) (Nat.ne_of_lt F.ns.lt) (next_is_new F) off trivial (R _) (last _)
  · refine wpAny_pyIter_ascii ha ?_
    exact LCg.block_U (Walks.strAscii hh s₁.heap.objs.size y t) hsz (fun i h z => let ⟨o, e, _⟩ := z; ⟨o, e⟩) (st _) hcell hkind hx ⟨_, Heap.get?_push_size _ rfl, rfl, rfl⟩ (fpl _) (F.keeps (up _)) (N.grown (up _)) (Nat.ne_of_lt F.ns.lt) (next_is_new F) off trivial (R _) (last _)
end
def encC (c : Nat) : List Nat := if c = 34 ∨ c = 92 then [92, c] else [c]
theorem encW_cons (c : Nat) (l : List Nat) : encW (c :: l) = encC c ++ encW l := rfl
theorem encW_append (l r : List Nat) : encW (l ++ r) = encW l ++ encW r := by
  induction l with
  | nil => rfl
  | cons c l ih => rw [List.cons_append, encW_cons, encW_cons, ih, List.append_assoc]
def catL (l : List (List Nat)) : List Nat := l.flatten
theorem mkS_append (a b : List Nat) : mkS a ++ mkS b = mkS (a ++ b) := by
  apply Str.ext'
  rw [Str.cps_append]
  simp
theorem mkS_toList (x : Str) : mkS x.cps.toList = x := Str.ext' (by simp)
theorem join_nil : ∀ l : List (List Nat), Txt.join (Str.ofString "") (l.map mkS) = mkS l.flatten := by
  have e0 : Str.ofString "" = mkS [] := by decide +kernel
  have key : ∀ l : List (List Nat), Str.join (mkS []) (l.map mkS) = mkS l.flatten := by
    intro l
    induction l with
    | nil => rfl
    | cons a l ih =>
      cases l with
      | nil => simp [Str.join]
      | cons b l =>
        show mkS a ++ mkS [] ++ Str.join (mkS []) ((b :: l).map mkS) = _
        rw [ih, mkS_append, mkS_append]
        simp
  intro l
  rw [e0, ← key l]
  exact eq_of_beq (join_plain_closes _ _)
theorem encW_len : ∀ x : List Nat, (encW x).length ≤ 2 * x.length
  | [] => Nat.le_refl _
  | c :: x => by
    have := encW_len x
    rw [encW_cons, List.length_append, List.length_cons]
    have : (encC c).length ≤ 2 := by unfold encC; split <;> simp
    omega
theorem encW_flat (x : List Nat) : encW x = (x.map encC).flatten := by
  induction x with
  | nil => rfl
  | cons c x ih => rw [encW_cons, ih]; rfl
theorem encW_sum (x : List Nat) : ((x.map fun c => mkS (encC c)).map (·.length)).sum = (encW x).length := by
  induction x with
  | nil => rfl
  | cons c x ih =>
    rw [encW_cons, List.length_append, ← ih]
    simp [Str.length]
theorem strs_snoc {vs : List Value} {xs : List Str} {y : Str} {t : Tok} (h : StrsAre vs xs) : StrsAre (vs ++ [.str y t]) (xs ++ [y]) := by
  induction h with
  | nil => exact .cons _ _ .nil
  | cons z u _ ih => exact .cons _ _ ih
theorem sign_in2 (c : Nat) : signIn (Str.ofString "\"\\") c = decide (c = 34 ∨ c = 92) := by
  unfold signIn
  rw [show (Str.ofString "\"\\").cps.toList = [34, 92] by decide +kernel]
  simp
abbrev txtOf (l : List Nat) : Str := mkS l
theorem c_quoted {x : List Nat} {t : Tok}
    (hdp : dp < 400) (hun : un < 200)
    (B : Below A₀ base outer h₀) (F : Fr h₀ L s.heap m) (X : (hd.heap_39 w.params).In h₀) (N : News h₀ L s.heap rest) (T : Top p loose mean mg mb h₀) (hk : cs.kind = .function)
    (hx : x.length < 1000)
    (h : ∀ h' tk' t', Fr h₀ L h' m → News h₀ L h' rest → Q (.str (mkS (34 :: encW x ++ [34])) t') { s with heap := h', toks := tk' }) :
    codeAny (model Challenge.rw_pg0080_01.row.prog w) (ktrTop dp un gd cn cs L a ccd cl outer) (.call (.ref 131) ⟨[.str (mkS x) t], []⟩) (fun r s' => match r with | .ok (.ret v) => Q v s' | .ok _ => False | .error e => E e s') s := by
  k_dflt ktr_enter
  iterate 11 (first | (k_unfold; (try dsimp only)) | (k_end; wrow_close) | walk1 | (dsimp only; walk1) | (leave1; walk_say "STEP leave1"; try dsimp only) | fail "no step")
  refine comp_signs (by k_asm) (by with_unfolding_all rfl) (by decide) (by rfl) (by decide) (by rfl) ?_
  iterate 1 (first | (k_unfold; (try dsimp only)) | (k_end; wrow_close) | walk1 | (dsimp only; walk1) | (leave1; walk_say "STEP leave1"; try dsimp only) | fail "no step")
  refine ⟨_, _, _, rfl, rfl, (by k_asm), (by k_asm), (by rw [PySem.sizeLine_eq]; simp; omega), ?_⟩
  intro g
  refine comp_J (fun i ys nw => nw = rest ∧ StrsAre ys ((x.take i).map fun c => mkS (encC c))) ⟨rfl, .nil⟩ ?_ ?_
  · intro i ys news₁ v I oI C oC D m₂ h tk E' hi hJ hv hC hx F N off ne
    obtain ⟨rfl, hys⟩ := hJ
    obtain ⟨c, u, hc, rfl⟩ := hv
    obtain ⟨ne1, ne2, ne3⟩ := ne
    have hc' : x[i]? = some c := by simpa using hc
    iterate 7 (first | (k_unfold; (try dsimp only)) | (k_end; wrow_close) | walk1 | (dsimp only; walk1) | (leave1; walk_say "STEP leave1"; try dsimp only) | fail "no step")
    · iterate 4 (first | (k_unfold; (try dsimp only)) | (k_end; wrow_close) | walk1 | (dsimp only; walk1) | (leave1; walk_say "STEP leave1"; try dsimp only) | fail "no step")
      k_dflt (refine LCg.CompEnd.intro (by k_asm) (by k_asm) _ (fun _ hp => hp) (off3_keys (by assumption) (by rfl)) (by exact True.intro) ?_)
      k_steps
      rw [List.take_add_one, hc', List.map_append]
      rename signIn _ _ = true => e9
      rw [sign_in2] at e9
      have e8 : (Str.ofString "\\" ++ (⟨#[c]⟩ : Str)) = mkS (encC c) := by
        rw [show (⟨#[c]⟩ : Str) = mkS [c] from rfl, show Str.ofString "\\" = mkS [92] by decide +kernel, mkS_append, encC, if_pos (of_decide_eq_true e9)]
        rfl
      rw [e8]
      exact strs_snoc hys
    · iterate 1 (first | (k_unfold; (try dsimp only)) | (k_end; wrow_close) | walk1 | (dsimp only; walk1) | (leave1; walk_say "STEP leave1"; try dsimp only) | fail "no step")
      k_dflt (refine LCg.CompEnd.intro (by k_asm) (by k_asm) _ (fun _ hp => hp) (off3_keys (by assumption) (by rfl)) (by exact True.intro) ?_)
      k_steps
      rw [List.take_add_one, hc', List.map_append]
      rename signIn _ _ = false => e9
      rw [sign_in2] at e9
      have e8 : (⟨#[c]⟩ : Str) = mkS (encC c) := by
        rw [encC, if_neg (of_decide_eq_false e9)]
      rw [e8]
      exact strs_snoc hys
  · intro ys news₁ hJ
    obtain ⟨rfl, hys⟩ := hJ
    unfold LCg.FinE
    intro SD h' tk' F' N' o1'
    dsimp only
    iterate 1 (first | (k_unfold; (try dsimp only)) | (k_end; wrow_close) | walk1 | (dsimp only; walk1) | (leave1; walk_say "STEP leave1"; try dsimp only) | fail "no step")
    rw [show (mkS x).cps.size = x.length by simp, List.take_length] at hys
    have hle := encW_len x
    have hw : ((x.map fun c => mkS (encC c)).map (·.length)).sum + (x.map fun c => mkS (encC c)).length ≤ 1048576 := by
      rw [encW_sum, List.length_map]
      omega
    refine join_listW (items := ys.toArray) ⟨_, (N' _ List.mem_cons_self).1, rfl, _, rfl⟩ (by simpa using hys) (by decide +kernel) hw ?_
    intro t' k
    have ej : Txt.join (Str.ofString "") (x.map fun c => mkS (encC c)) = mkS (encW x) := by
      have := join_nil (x.map encC)
      rw [List.map_map] at this
      rw [encW_flat]
      exact this
    rw [ej]
    have hl9 : (mkS (encW x)).length ≤ 2000 := by simp [Str.length]; omega
    rw [show mkS (34 :: encW x ++ [34]) = Str.ofString "\"" ++ mkS (encW x) ++ Str.ofString "\"" by rw [show Str.ofString "\"" = mkS [34] by decide +kernel, mkS_append, mkS_append]; rfl] at h
    generalize mkS (encW x) = J9 at *
    k_steps
    rename News _ _ _ _ => N9
    exact h _ _ _ (by k_asm) (fun q hq => N9 q (List.mem_cons_of_mem _ hq))
end
end
section
theorem seed16 : True := by
  w_top off
  exact True.intro
section
variable {w : World} {dp un : Nat} {gd : Option (List Code)} {cn : Str} {cs : Scope} {a : Addr} {ccd : Value} {cl : List (Str × Addr)} {outer : List Env} {A₀ : Around} {base h₀ : Heap} {L : Addr} {m : Str → Option Value} {rest : List (Addr × Obj)} {s : Shared}
    {Q E : Value → Shared → Prop} {Q2 : Flow → Shared → Prop} {p : Program} {loose : List Str} {mean : ExcName → Option Value} {mg mb : Str → Option Value}
def dueS (ns ks : List Int) (R spot : Nat) : Nat → Int × Int × Int × Int × Int
  | 0 => (0, 0, 0, 0, -1)
  | j + 1 =>
    ((dueS ns ks R spot j).1 + (ks.count (j : Int) : Nat) * ns.getD ((spot + j) % ns.length) 0,
     (dueS ns ks R spot j).2.1 + (ks.count (j : Int) : Nat) * ns.getD ((spot + j) % ns.length) 0 * (1 - ((j % 2 : Nat) : Int) * 2),
     if Builtin.bitAnd (j : Int) (R : Int) = (j : Int) then Builtin.bitXor (dueS ns ks R spot j).2.2.1 (ns.getD ((spot + j) % ns.length) 0) else (dueS ns ks R spot j).2.2.1,
     Builtin.bitOr (dueS ns ks R spot j).2.2.2.1 (ns.getD ((spot + j) % ns.length) 0),
     Builtin.bitAnd (dueS ns ks R spot j).2.2.2.2 (ns.getD ((spot + j) % ns.length) 0))
section
variable {prog : Program} {w : World} {A : Around} {E : Value → Shared → Prop} {s : Shared} {h₀ : Heap} {L : Addr} {m : Str → Option Value} {news : List (Addr × Obj)}
theorem mod_nat {a b : Nat} {c : Int} {t u : Tok} {Q : Value → Shared → Prop} (hc : c = (a : Int)) (hb : 0 < b) (h : ∀ t' k, Q (.int ((a % b : Nat) : Int) t') { s with toks := k }) : wpAny (model prog w) A (binaryOp .Mod (.int c t) (.int (b : Int) u)) Q E s := by
  refine mod_int (by omega) ?_
  have e : c.fmod (b : Int) = ((a % b : Nat) : Int) := by
    subst hc
    rw [Int.fmod_eq_emod_of_nonneg _ (by omega)]
    simp
  rw [e]
  exact h _ _
theorem mod_2 {j : Nat} {t u : Tok} {Q : Value → Shared → Prop} (h : ∀ t' k, Q (.int ((j % 2 : Nat) : Int) t') { s with toks := k }) : wpAny (model prog w) A (binaryOp .Mod (.int (j : Int) t) (.int 2 u)) Q E s :=
  mod_nat (b := 2) rfl (by omega) h
theorem ints_at {vs : List Value} {ns : List Int} (h : IntsAre vs ns) : ∀ {j : Nat}, j < ns.length → ∃ t, vs[j]? = some (.int (ns.getD j 0) t) := by
  induction h with
  | nil => intro j hj; cases hj
  | cons x t _ ih =>
    intro j hj
    cases j with
    | zero => exact ⟨t, rfl⟩
    | succ j => exact ih (Nat.lt_of_succ_lt_succ hj)
theorem strs_at {vs : List Value} {xs : List Str} (h : StrsAre vs xs) : ∀ {j : Nat}, j < xs.length → ∃ t, vs[j]? = some (.str (xs.getD j (Str.ofString "")) t) := by
  induction h with
  | nil => intro j hj; cases hj
  | cons x t _ ih =>
    intro j hj
    cases j with
    | zero => exact ⟨t, rfl⟩
    | succ j => exact ih (Nat.lt_of_succ_lt_succ hj)
theorem str_in {value slice : PySem.Expr} {l : Addr} {vs : List Value} {xs : List (List Nat)} {u : Tok} {n j : Nat} {Q : Value → Shared → Prop} (N : News h₀ L s.heap news) (hm : (l, W.listOf vs.toArray n) ∈ news) (hi : StrsAre vs (xs.map mkS)) (hj : j < xs.length) (hj2 : j < 1000)
    (h : ∀ t, Q (.str (mkS (xs.getD j [])) t) s) (hs : subscripted slice false (.ref l) (.int (j : Int) u) = operate [.ref l, .int (j : Int) u] (getItem (.ref l) (.int (j : Int) u)) := by with_unfolding_all rfl) :
    wpAny (model prog w) A (subscriptTail value slice (.ref l) (.int (j : Int) u)) Q E s := by
  obtain ⟨t, ht⟩ := strs_at hi (j := j) (by simpa using hj)
  refine item_in N hm rfl hj2 ht ?_ hs
  have e : (xs.map mkS).getD j (Str.ofString "") = mkS (xs.getD j []) := by
    simp [List.getD, List.getElem?_map, List.getElem?_eq_getElem hj]
  rw [e]
  exact h t
theorem int_in {value slice : PySem.Expr} {l : Addr} {vs : List Value} {ns : List Int} {u : Tok} {n j : Nat} {Q : Value → Shared → Prop} (N : News h₀ L s.heap news) (hm : (l, W.listOf vs.toArray n) ∈ news) (hi : IntsAre vs ns) (hj : j < ns.length) (hj2 : j < 1000)
    (h : ∀ t, Q (.int (ns.getD j 0) t) s) (hs : subscripted slice false (.ref l) (.int (j : Int) u) = operate [.ref l, .int (j : Int) u] (getItem (.ref l) (.int (j : Int) u)) := by with_unfolding_all rfl) :
    wpAny (model prog w) A (subscriptTail value slice (.ref l) (.int (j : Int) u)) Q E s := by
  obtain ⟨t, ht⟩ := ints_at hi hj
  exact item_in N hm rfl hj2 ht (h t) hs
end
theorem dueS_odd1 {ns ks : List Int} {R spot j : Nat} (e : Builtin.bitAnd (j : Int) (R : Int) = (j : Int)) : (dueS ns ks R spot (j + 1)).2.2.1 = Builtin.bitXor (dueS ns ks R spot j).2.2.1 (ns.getD ((spot + j) % ns.length) 0) := if_pos e
theorem dueS_odd2 {ns ks : List Int} {R spot j : Nat} (e : ¬ Builtin.bitAnd (j : Int) (R : Int) = (j : Int)) : (dueS ns ks R spot (j + 1)).2.2.1 = (dueS ns ks R spot j).2.2.1 := if_neg e
theorem getD_cast (l : List Nat) (i : Nat) : (l.map fun k : Nat => (k : Int)).getD i 0 = ((l.getD i 0 : Nat) : Int) := by
  simp only [List.getD, List.getElem?_map]
  cases l[i]? <;> rfl
theorem ints_len {vs : List Value} {ns : List Int} (h : IntsAre vs ns) : vs.length = ns.length := by
  induction h with
  | nil => rfl
  | cons _ _ _ ih => simp [ih]
theorem strs_len {vs : List Value} {xs : List Str} (h : StrsAre vs xs) : vs.length = xs.length := by
  induction h with
  | nil => rfl
  | cons _ _ _ ih => simp [ih]
theorem sum_le2 : ∀ l : List Str, (∀ x ∈ l, x.length ≤ 2) → (l.map (·.length)).sum ≤ 2 * l.length
  | [], _ => Nat.le_refl _
  | x :: l, h => by
    have h1 := h x List.mem_cons_self
    have h2 := sum_le2 l fun y hy => h y (List.mem_cons_of_mem _ hy)
    simp only [List.map_cons, List.sum_cons, List.length_cons]
    omega
abbrev castL (kn : List Nat) : List Int := kn.map fun k : Nat => (k : Int)
def dueT (wds : List (List Nat)) (kn : List Nat) (n spot : Nat) : List Nat := (kn.map fun k => wds.getD ((spot + k) % n) []).flatten
abbrev dueV (ns : List Int) (kn : List Nat) (wds : List (List Nat)) (R spot : Nat) (t0 t1 t2 t3 t4 t5 : Tok) : List Value :=
  [.str (mkS (dueT wds kn ns.length spot)) t0, .int (dueS ns (castL kn) R spot (R + 1)).1 t1, .int (dueS ns (castL kn) R spot (R + 1)).2.1 t2, .int (dueS ns (castL kn) R spot (R + 1)).2.2.1 t3,
   .int (dueS ns (castL kn) R spot (R + 1)).2.2.2.1 t4, .int (dueS ns (castL kn) R spot (R + 1)).2.2.2.2 t5]
theorem mem_d5 {α : Type} {d a b c e : α} {l : List α} : ∀ q ∈ d :: l, q ∈ d :: a :: b :: c :: e :: l := by
  ((repeat' (first | refine List.forall_mem_cons.mpr ⟨?_, ?_⟩ | refine List.forall_mem_append.mpr ⟨?_, ?_⟩)) <;> first | ((repeat (first | exact List.mem_cons_self | refine List.mem_cons_of_mem _ ?_ | refine List.mem_append_right _ ?_)); done) | exact List.forall_mem_nil _ | (intro q hq; (repeat (first | exact hq | exact List.mem_append_left _ hq | refine List.mem_cons_of_mem _ ?_ | refine List.mem_append_right _ ?_)); done))
end
end
section
theorem seed17 : True := by
  w_top off
  exact True.intro
section
variable {w : World} {dp un : Nat} {gd : Option (List Code)} {cn : Str} {cs : Scope} {a : Addr} {ccd : Value} {cl : List (Str × Addr)} {outer : List Env} {A₀ : Around} {base h₀ : Heap} {L : Addr} {m : Str → Option Value} {rest : List (Addr × Obj)} {s : Shared}
    {Q E : Value → Shared → Prop} {Q2 : Flow → Shared → Prop} {p : Program} {loose : List Str} {mean : ExcName → Option Value} {mg mb : Str → Option Value}
theorem off1_all' {d : Nat} : ∀ {l : List (Addr × Obj)}, AllLt d l → LCg.Off1 d l
  | [], _ => trivial
  | _ :: _, x => ⟨Nat.ne_of_lt x.1, off1_all' x.2⟩
theorem ite_join {M : Model} {A : Around} {c : Prop} [Decidable c] {t1 t2 : Sem Value} {K E : Value → Shared → Prop} {s : Shared} {n : Int}
    (h1 : c → ∀ K' : Value → Shared → Prop, (∀ t k, K' (.int n t) { s with toks := k }) → wpAny M A t1 K' E s) (h2 : ¬ c → ∀ K' : Value → Shared → Prop, (∀ t k, K' (.int n t) { s with toks := k }) → wpAny M A t2 K' E s)
    (h : ∀ t k, K (.int n t) { s with toks := k }) : if c then wpAny M A t1 K E s else wpAny M A t2 K E s := by
  split
  · exact h1 (by assumption) K h
  · exact h2 (by assumption) K h
theorem c_due {rl wl ol : Addr} {vs ws os : List Value} {ns : List Int} {kn : List Nat} {wds : List (List Nat)} {n1 n2 n3 R spot : Nat} {st : Tok}
    (hdp : dp < 380) (hun : un < 170)
    (B : Below A₀ base outer h₀) (F : Fr h₀ L s.heap m) (X : (hd.heap_39 w.params).In h₀) (N : News h₀ L s.heap ((rl, W.listOf vs.toArray n1) :: (wl, W.listOf ws.toArray n2) :: (ol, W.listOf os.toArray n3) :: rest)) (T : Top p loose mean mg mb h₀) (hk : cs.kind = .function)
    (hvs : IntsAre vs ns) (hws : StrsAre ws (wds.map mkS)) (hos : IntsAre os (kn.map fun k : Nat => (k : Int))) (hR1 : R ∈ kn) (hR2 : ∀ a ∈ kn, a ≤ R) (hR4 : R ≤ 4) (hn0 : 0 < ns.length) (hn6 : ns.length < 6) (hxl : wds.length = ns.length) (hkl : kn.length ≤ 16)
    (hx2 : ∀ x ∈ wds, x.length ≤ 2) (hsp : spot < ns.length)
    (h : ∀ h' tk' D t0 t1 t2 t3 t4 t5 nD, LCg.Off1 D ((rl, W.listOf vs.toArray n1) :: (wl, W.listOf ws.toArray n2) :: (ol, W.listOf os.toArray n3) :: rest) → Fr h₀ L h' m → News h₀ L h' ((D, W.listOf (dueV ns kn wds R spot t0 t1 t2 t3 t4 t5).toArray nD) :: (rl, W.listOf vs.toArray n1) :: (wl, W.listOf ws.toArray n2) :: (ol, W.listOf os.toArray n3) :: rest) → Q (.ref D) { s with heap := h', toks := tk' }) :
    codeAny (model Challenge.rw_pg0080_01.row.prog w) (ktrTop dp un gd cn cs L a ccd cl outer) (.call (.ref 141) ⟨[.ref rl, .ref wl, .ref ol, .int (spot : Int) st], []⟩) (fun r s' => match r with | .ok (.ret v) => Q v s' | .ok _ => False | .error e => E e s') s := by
  obtain ⟨ks, hks⟩ : ∃ ks : List Int, ks = kn.map fun k : Nat => (k : Int) := ⟨_, rfl⟩
  have hos' : IntsAre os ks := by rw [hks]; exact hos
  have hkl' : ks.length ≤ 16 := by rw [hks, List.length_map]; exact hkl
  have hR1' : (R : Int) ∈ ks := by rw [hks]; exact List.mem_map_of_mem (f := fun k : Nat => (k : Int)) hR1
  have hR2' : ∀ a ∈ ks, a ≤ (R : Int) := by
    intro a ha
    rw [hks] at ha
    obtain ⟨k, hk, rfl⟩ := List.mem_map.mp ha
    exact Int.ofNat_le.mpr (hR2 _ hk)
  have hosl := ints_len hos'
  k_dflt (refine' code_defC ?k1 ?k2 ?k3 ?k4 ?k5 ?kA ?kF ?kK ?k6 ?k7 ?k8 ?k9 ?kB ?kD ?_ ?c2 ?c3 ?c4; (case kA => exact rfl); (case kF => exact rfl); (case kK => assumption); (case k1 => k_asm); (case k2 => k_asm); (case k3 => k_asm); (case k4 => k_asm); (case k5 => k_asm); (case k6 => k_is); (case k7 => k_is); (case k8 => k_room); (case k9 => exact BindsTo.of_eq rfl); (case kB => exact rfl); (case kD => decide +kernel); (case c2 => exact rfl); (case c3 => exact rfl); (case c4 => exact rfl); k_whole; intro g' L' h' tk' cells' FG' F' N' Y' B' X' T' l1; (try k_lt l1); k_cells Y'; (try simp only [List.cons_append, List.nil_append] at N'); (try dsimp only); (try k_lift B'); (try k_fold))
  rename_i oA oB oK dA dB dC
  iterate 10 (first | (k_unfold; (try dsimp only)) | (k_end; wrow_close) | walk1 | (dsimp only; walk1) | (leave1; walk_say "STEP leave1"; try dsimp only) | fail "no step")
  refine kso_max (vs := os) (ns := ks) (by k_asm) (by k_asm) ⟨_, (News.get (by k_asm) (by k_mem)), rfl, _, rfl⟩ hos' (List.length_pos_of_mem hR1') rfl ?_
  intro h' M' t' k' F' N' hM1 hM2
  obtain rfl : M' = (R : Int) := Int.le_antisymm (hR2' _ hM1) (hM2 _ hR1')
  iterate 34 (first | (k_unfold; (try dsimp only)) | (k_end; wrow_close) | walk1 | (dsimp only; walk1) | (leave1; walk_say "STEP leave1"; try dsimp only) | fail "no step")
  refine wpAny_execs_cons ?_
  refine for_it ?_
  iterate 10 (first | (k_unfold; (try dsimp only)) | (k_end; wrow_close) | walk1 | (dsimp only; walk1) | (leave1; walk_say "STEP leave1"; try dsimp only) | fail "no step")
  rename News _ _ _ _ => N9
  obtain ⟨nv, hnv⟩ : ∃ nv, vs.toArray.size = nv := ⟨_, rfl⟩
  have hnv1 : nv = ns.length := by rw [← hnv, ← IntsAre.length hvs]; simp
  refine loop_range (n := R + 1) (fun j m₁ nw => nw = (L' + 1 + 1 + 1, oA) :: (L' + 1 + 1, oB) :: (L' + 1, oK) :: (rl, W.listOf vs.toArray n1) :: (wl, W.listOf ws.toArray n2) :: (ol, W.listOf os.toArray n3) :: rest ∧
    (∃ t, m₁ (Str.ofString "rounds") = some (.int (R : Int) t)) ∧ m₁ (Str.ofString "ones") = some (.ref ol) ∧ (∃ t, m₁ (Str.ofString "total") = some (.int (dueS ns ks R spot j).1 t)) ∧ (∃ t, m₁ (Str.ofString "less") = some (.int (dueS ns ks R spot j).2.1 t)) ∧
    (∃ t, m₁ (Str.ofString "odd") = some (.int (dueS ns ks R spot j).2.2.1 t)) ∧ (∃ t, m₁ (Str.ofString "some") = some (.int (dueS ns ks R spot j).2.2.2.1 t)) ∧ (∃ t, m₁ (Str.ofString "every") = some (.int (dueS ns ks R spot j).2.2.2.2 t)))
    (by rfl) (by assumption) (by push_cast; rfl) (by omega) (by k_asm) (fun q hq => N9 q (List.mem_cons_of_mem _ hq)) ⟨rfl, ⟨_, rfl⟩, rfl, ⟨_, rfl⟩, ⟨_, rfl⟩, ⟨_, rfl⟩, ⟨_, rfl⟩, ⟨_, rfl⟩⟩ ?_ ?_
  · intro j tj I m₁ nw oI h tk hj hJ F N off
    refine wp_name fun Q9 hQ9 => ?_
    obtain ⟨rfl, ⟨q1, hq1⟩, hones, ⟨q2, hq2⟩, ⟨q3, hq3⟩, ⟨q4, hq4⟩, ⟨q5, hq5⟩, ⟨q6, hq6⟩⟩ := hJ
    have hcount : ks.count (j : Int) ≤ 16 := Nat.le_trans List.count_le_length hkl'
    have hjn : (spot + j) % nv < ns.length := by rw [hnv1]; exact Nat.mod_lt _ hn0
    iterate 18 (first | (k_unfold; (try dsimp only)) | (k_end; wrow_close) | walk1 | (dsimp only; walk1) | (leave1; walk_say "STEP leave1"; try dsimp only) | fail "no step")
    refine mod_nat (Int.natCast_add _ _).symm (by omega) ?_
    intro _ _
    k_dflt (refine int_in (by k_asm) (by k_mem) (by assumption) (by first | assumption | omega) (by omega) ?_)
    intro _
    iterate 3 (first | (k_unfold; (try dsimp only)) | (k_end; wrow_close) | walk1 | (dsimp only; walk1) | (leave1; walk_say "STEP leave1"; try dsimp only) | fail "no step")
    k_dflt (refine' kl_method ?N ?m PySem.F.slot_list_count PySem.F.type_list_count ?_; (case N => k_asm); (case m => k_mem))
    iterate 4 (first | (k_unfold; (try dsimp only)) | (k_end; wrow_close) | walk1 | (dsimp only; walk1) | (leave1; walk_say "STEP leave1"; try dsimp only) | fail "no step")
    k_dflt (refine count_list_ints ⟨_, (News.get (by k_asm) (by k_mem)), rfl, _, rfl⟩ (by assumption) ?_)
    iterate 13 (first | (k_unfold; (try dsimp only)) | (k_end; wrow_close) | walk1 | (dsimp only; walk1) | (leave1; walk_say "STEP leave1"; try dsimp only) | fail "no step")
    k_dflt (refine wpAny_loadName_local rfl rfl (Fr.ns (by k_asm)) (by assumption) ?_)
    iterate 3 (first | (k_unfold; (try dsimp only)) | (k_end; wrow_close) | walk1 | (dsimp only; walk1) | (leave1; walk_say "STEP leave1"; try dsimp only) | fail "no step")
    k_dflt (first | refine mul_int ?_ (IntMulOk.of_left (intBits_le_64 (by omega) (by omega))) | refine mul_int ?_ (IntMulOk.of_right (intBits_le_64 (by omega) (by omega))))
    iterate 4 (first | (k_unfold; (try dsimp only)) | (k_end; wrow_close) | walk1 | (dsimp only; walk1) | (leave1; walk_say "STEP leave1"; try dsimp only) | fail "no step")
    k_dflt (refine wpAny_loadName_local rfl rfl (Fr.ns (by k_asm)) (by assumption) ?_)
    iterate 4 (first | (k_unfold; (try dsimp only)) | (k_end; wrow_close) | walk1 | (dsimp only; walk1) | (leave1; walk_say "STEP leave1"; try dsimp only) | fail "no step")
    k_dflt (first | refine mul_int ?_ (IntMulOk.of_left (intBits_le_64 (by omega) (by omega))) | refine mul_int ?_ (IntMulOk.of_right (intBits_le_64 (by omega) (by omega))))
    iterate 6 (first | (k_unfold; (try dsimp only)) | (k_end; wrow_close) | walk1 | (dsimp only; walk1) | (leave1; walk_say "STEP leave1"; try dsimp only) | fail "no step")
    refine mod_2 ?_
    intro _ _
    iterate 1 (first | (k_unfold; (try dsimp only)) | (k_end; wrow_close) | walk1 | (dsimp only; walk1) | (leave1; walk_say "STEP leave1"; try dsimp only) | fail "no step")
    k_dflt (first | refine mul_int ?_ (IntMulOk.of_left (intBits_le_64 (by omega) (by omega))) | refine mul_int ?_ (IntMulOk.of_right (intBits_le_64 (by omega) (by omega))))
    iterate 1 (first | (k_unfold; (try dsimp only)) | (k_end; wrow_close) | walk1 | (dsimp only; walk1) | (leave1; walk_say "STEP leave1"; try dsimp only) | fail "no step")
    k_dflt (first | refine mul_int ?_ (IntMulOk.of_left (intBits_le_64 (by omega) (by omega))) | refine mul_int ?_ (IntMulOk.of_right (intBits_le_64 (by omega) (by omega))))
    iterate 13 (first | (k_unfold; (try dsimp only)) | (k_end; wrow_close) | walk1 | (dsimp only; walk1) | (leave1; walk_say "STEP leave1"; try dsimp only) | fail "no step")
    refine ite_join (n := (dueS ns ks R spot (j + 1)).2.2.1) ?_ ?_ ?_
    · intro e9 K' hK'
      iterate 4 (first | (k_unfold; (try dsimp only)) | (k_end; wrow_close) | walk1 | (dsimp only; walk1) | (leave1; walk_say "STEP leave1"; try dsimp only) | fail "no step")
      subst hnv1
      rw [← dueS_odd1 (eq_of_beq e9)]
      exact hK' _ _
    · intro e9 K' hK'
      iterate 1 (first | (k_unfold; (try dsimp only)) | (k_end; wrow_close) | walk1 | (dsimp only; walk1) | (leave1; walk_say "STEP leave1"; try dsimp only) | fail "no step")
      rw [← dueS_odd2 (ns := ns) (ks := ks) (spot := spot) fun e => e9 (beq_iff_eq.mpr e)]
      exact hK' _ _
    · intro to ko
      iterate 26 (first | (k_unfold; (try dsimp only)) | (k_end; wrow_close) | walk1 | (dsimp only; walk1) | (leave1; walk_say "STEP leave1"; try dsimp only) | fail "no step")
      rename Fr _ _ _ _ => F9
      rename News _ _ _ _ => N9
      subst hnv1
      refine hQ9 _ _ ?_
      refine ⟨_, _, _, _, rfl, F9, fun q hq => N9 q (List.mem_cons_of_mem _ (List.mem_cons_of_mem _ hq)), off, trivial, rfl, ⟨q1, hq1⟩, hones, ⟨_, rfl⟩, ⟨_, rfl⟩, ⟨_, rfl⟩, ⟨_, rfl⟩, ⟨_, rfl⟩⟩
  · intro m₁ nw hp1 tk hJ F N
    obtain ⟨rfl, ⟨q1, hq1⟩, hones, ⟨q2, hq2⟩, ⟨q3, hq3⟩, ⟨q4, hq4⟩, ⟨q5, hq5⟩, ⟨q6, hq6⟩⟩ := hJ
    dsimp only
    iterate 11 (first | (k_unfold; (try dsimp only)) | (k_end; wrow_close) | walk1 | (dsimp only; walk1) | (leave1; walk_say "STEP leave1"; try dsimp only) | fail "no step")
    k_dflt (refine LCg.CompSrc.ledger (by rfl) (by k_asm) (by k_asm) (by k_mem) (by rw [PySem.sizeLine_eq, List.size_toArray]; omega) ?_; intro g9)
    refine comp_J (fun i ys nw => nw = (L' + 1 + 1 + 1, oA) :: (L' + 1 + 1, oB) :: (L' + 1, oK) :: (rl, W.listOf vs.toArray n1) :: (wl, W.listOf ws.toArray n2) :: (ol, W.listOf os.toArray n3) :: rest ∧
      StrsAre ys ((kn.take i).map fun k => mkS (wds.getD ((spot + k) % ns.length) []))) ⟨rfl, .nil⟩ ?_ ?_
    · intro i ys news₁ v I oI C oC D m₂ h tk E' hi hJ hv hC hx F N off ne
      refine wp_name fun Q9 hQ9 => ?_
      obtain ⟨rfl, hys⟩ := hJ
      have hik : i < kn.length := by
        rw [List.size_toArray, hosl, hks, List.length_map] at hi
        exact hi
      obtain ⟨t0, ht0⟩ := ints_at hos (j := i) (by simpa using hik)
      rw [getD_cast] at ht0
      obtain rfl : v = .int ((kn.getD i 0 : Nat) : Int) t0 := by
        rw [List.getElem?_toArray, ht0] at hv
        exact (Option.some.inj hv).symm
      obtain ⟨ne1, ne2, ne3⟩ := ne
      obtain ⟨k0, hk0⟩ : ∃ k0, kn.getD i 0 = k0 := ⟨_, rfl⟩
      rw [hk0] at hx
      have hjn : (spot + k0) % nv < wds.length := by rw [hnv1, hxl]; exact Nat.mod_lt _ hn0
      iterate 14 (first | (k_unfold; (try dsimp only)) | (k_end; wrow_close) | walk1 | (dsimp only; walk1) | (leave1; walk_say "STEP leave1"; try dsimp only) | fail "no step")
      refine mod_nat (Int.natCast_add _ _).symm (by omega) ?_
      intro _ _
      k_dflt (refine str_in (by k_asm) (by k_mem) (by assumption) (by first | assumption | omega) (by omega) ?_)
      intro _
      refine hQ9 _ _ ?_
      refine LCg.CompEnd.intro F N _ (fun q hq => hq) off (.inr ⟨_, by k_mem, rfl, _, rfl⟩) ⟨rfl, ?_⟩
      have hki : kn[i]? = some k0 := by
        rw [← hk0]
        simp [List.getD, List.getElem?_eq_getElem hik]
      subst hnv1
      rw [List.take_add_one, hki, List.map_append]
      exact strs_snoc hys
    · intro ys news₁ hJ
      obtain ⟨rfl, hys⟩ := hJ
      unfold LCg.FinE
      intro SD h' tk' F' N' o1'
      dsimp only
      iterate 1 (first | (k_unfold; (try dsimp only)) | (k_end; wrow_close) | walk1 | (dsimp only; walk1) | (leave1; walk_say "STEP leave1"; try dsimp only) | fail "no step")
      rw [show os.toArray.size = kn.length by rw [List.size_toArray, hosl, hks, List.length_map], List.take_length] at hys
      have hw2 : ∀ x ∈ kn.map fun k => mkS (wds.getD ((spot + k) % ns.length) []), x.length ≤ 2 := by
        intro x hx
        obtain ⟨k, _, rfl⟩ := List.mem_map.mp hx
        have hlt : (spot + k) % ns.length < wds.length := by rw [hxl]; exact Nat.mod_lt _ hn0
        have := hx2 (wds.getD ((spot + k) % ns.length) []) (by simp [List.getD, List.getElem?_eq_getElem hlt])
        simpa [Str.length] using this
      have hw3 := sum_le2 _ hw2
      refine join_listW (items := ys.toArray) (ys := kn.map fun k => mkS (wds.getD ((spot + k) % ns.length) [])) ⟨_, (N' _ List.mem_cons_self).1, rfl, _, rfl⟩ hys (by decide +kernel) (by rw [List.length_map] at hw3 ⊢; omega) ?_
      intro t' k
      have ej : Txt.join (Str.ofString "") (kn.map fun k => mkS (wds.getD ((spot + k) % ns.length) [])) = mkS (dueT wds kn ns.length spot) := by
        have := join_nil (kn.map fun k => wds.getD ((spot + k) % ns.length) [])
        rw [List.map_map] at this
        exact this
      rw [ej]
      iterate 13 (first | (k_unfold; (try dsimp only)) | (k_end; wrow_close) | walk1 | (dsimp only; walk1) | (leave1; walk_say "STEP leave1"; try dsimp only) | fail "no step")
      rename News _ _ _ _ => N9
      rename Fr _ _ _ _ => F9
      subst hks
      rename (@LT.lt Nat _ SD _ ∧ _) => l9
      exact h _ _ _ _ _ _ _ _ _ _ ⟨Nat.ne_of_lt l9.2.2.2.2.1, Nat.ne_of_lt l9.2.2.2.2.2.1, Nat.ne_of_lt l9.2.2.2.2.2.2.1, off1_all' l9.2.2.2.2.2.2.2⟩ F9 (news_sub N9 mem_d5)
end
end
section
theorem seed18 : True := by
  w_top off
  exact True.intro
section
variable {w : World} {dp un : Nat} {gd : Option (List Code)} {cn : Str} {cs : Scope} {a : Addr} {ccd : Value} {cl : List (Str × Addr)} {outer : List Env} {A₀ : Around} {base h₀ : Heap} {L : Addr} {m : Str → Option Value} {rest : List (Addr × Obj)} {s : Shared}
    {Q E : Value → Shared → Prop} {Q2 : Flow → Shared → Prop} {p : Program} {loose : List Str} {mean : ExcName → Option Value} {mg mb : Str → Option Value}
noncomputable abbrev stL (e : Lx) (cs : List Value) (nf : Nat) : List (Addr × Obj) :=
  [(e.lf, W.listOf cs.toArray nf), (e.st, instObj 52 e.ds), (e.ds, dictOf (strD e.H2 e.k2 e.l2 e.t2 .none e.ws2 e.pb2 e.lam) 5),
   (e.lam, kla_obj (Str.ofString "<lambda>") e.qual lamP.1 lamP.2.1 lamP.2.2.1 [(Str.ofString "left", e.cel)] e.pm e.cc e.ctv), (e.cc, e.oc), (e.cel, e.ol)]
structure Lx.St (e : Lx) : Prop where
  hoc : e.oc.data = .fields e.vs
  hvs : e.vs[1]? = some (.str e.qual e.tq)
  hol : e.ol.data = .cell (some (.ref e.lf))
  ord : (@LT.lt Nat _ e.lf e.cel) ∧ (@LT.lt Nat _ e.cel e.ds) ∧ (@LT.lt Nat _ e.ds e.st) ∧ (@LT.lt Nat _ e.st e.cc) ∧ (@LT.lt Nat _ e.cc e.lam)
theorem mem_st {α : Type} {f c l x d k t a : α} {rest : List α} : ∀ q ∈ t :: ([a, x, d, f, c, k] ++ rest), q ∈ f :: c :: l :: x :: d :: k :: t :: a :: rest := by
  ((repeat' (first | refine List.forall_mem_cons.mpr ⟨?_, ?_⟩ | refine List.forall_mem_append.mpr ⟨?_, ?_⟩)) <;> first | ((repeat (first | exact List.mem_cons_self | refine List.mem_cons_of_mem _ ?_ | refine List.mem_append_right _ ?_)); done) | exact List.forall_mem_nil _ | (intro q hq; (repeat (first | exact hq | exact List.mem_append_left _ hq | refine List.mem_cons_of_mem _ ?_ | refine List.mem_append_right _ ?_)); done))
theorem c_stream {lf : Addr} {cv : List Value} {nf : Nat}
    (hdp : dp < 380) (hun : un < 170)
    (B : Below A₀ base outer h₀) (F : Fr h₀ L s.heap m) (X : (hd.heap_39 w.params).In h₀) (N : News h₀ L s.heap ((121, tabObj #[]) :: (lf, W.listOf cv.toArray nf) :: rest)) (T : Top p loose mean mg mb h₀) (hk : cs.kind = .function) (C : CodeHd base 125 121)
    (hL : @LT.lt Nat _ 121 L) (hlf : @LT.lt Nat _ 121 lf) (e8 : ∀ p ∈ rest, p.1 ≠ 121)
    (h : ∀ (e : Lx) h' tk' ps, e.lf = lf → e.St → Fr h₀ L h' m → News h₀ L h' ((121, tabObj ps) :: (stL e cv nf ++ rest)) → Q (.ref e.st) { s with heap := h', toks := tk' }) :
    codeAny (model Challenge.rw_pg0080_01.row.prog w) (ktrTop dp un gd cn cs L a ccd cl outer) (.call (.ref 126) ⟨[.ref lf], []⟩) (fun r s' => match r with | .ok (.ret v) => Q v s' | .ok _ => False | .error e => E e s') s := by
  k_dflt (refine' code_defC ?k1 ?k2 ?k3 ?k4 ?k5 ?kA ?kF ?kK ?k6 ?k7 ?k8 ?k9 ?kB ?kD ?_ ?c2 ?c3 ?c4; (case kA => exact rfl); (case kF => exact rfl); (case kK => assumption); (case k1 => k_asm); (case k2 => k_asm); (case k3 => k_asm); (case k4 => k_asm); (case k5 => k_asm); (case k6 => k_is); (case k7 => k_is); (case k8 => k_room); (case k9 => exact BindsTo.of_eq rfl); (case kB => exact rfl); (case kD => decide +kernel); (case c2 => exact rfl); (case c3 => exact rfl); (case c4 => exact rfl); k_whole; intro g' L' h' tk' cells' FG' F' N' Y' B' X' T' l1; (try k_lt l1); k_cells Y'; (try simp only [List.cons_append, List.nil_append] at N'); (try dsimp only); (try k_lift B'); (try k_fold))
  k_steps
  rename News _ _ _ _ => N9
  rename Fr _ _ _ _ => F9
  refine h ⟨0, 0, _, _, 0, _, lf, _, _, _, fun _ => 0, fun i => [_, _, _, _, _].getD i 0, fun _ => 0, fun i => [_, _, _, _, _].getD i 0, _, _, 0, _, _, _, _, _, _, _, _⟩ _ _ _ rfl ⟨by assumption, by assumption, by assumption, ?_⟩ F9 (news_sub N9 mem_st)
  dsimp only
  refine ⟨by omega, by omega, by omega, by omega, by omega⟩
end
end
section
theorem seed19 : True := by
  w_top off
  exact True.intro
section
variable {w : World} {dp un : Nat} {gd : Option (List Code)} {cn : Str} {cs : Scope} {a : Addr} {ccd : Value} {cl : List (Str × Addr)} {outer : List Env} {A₀ : Around} {base h₀ : Heap} {L : Addr} {m : Str → Option Value} {rest : List (Addr × Obj)} {s : Shared}
    {Q E : Value → Shared → Prop} {Q2 : Flow → Shared → Prop} {p : Program} {loose : List Str} {mean : ExcName → Option Value} {mg mb : Str → Option Value}
noncomputable abbrev nwL (H : Nat → Int) (k : Nat → Tok) (t1 : Tok) (ins : Value) (ws : Tok) (x dx pb : Addr) : List (Addr × Obj) :=
  [(pb, W.listOf ([] : List Value).toArray 0), (x, instObj 52 dx), (dx, dictOf (lexD H k 1 t1 ins ws pb) 4)]
theorem c_new {ins : Value}
    (hdp : dp < 380) (hun : un < 170)
    (B : Below A₀ base outer h₀) (F : Fr h₀ L s.heap m) (X : (hd.heap_39 w.params).In h₀) (N : News h₀ L s.heap rest) (T : Top p loose mean mg mb h₀) (hk : cs.kind = .function)
    (h : ∀ H k t1 ws x dx pb h' tk', (∀ q ∈ rest, q.1 < dx) → (@LT.lt Nat _ dx x) → (@LT.lt Nat _ x pb) → Fr h₀ L h' m → News h₀ L h' (nwL H k t1 ins ws x dx pb ++ rest) → Q (.ref x) { s with heap := h', toks := tk' }) :
    wpAny (model Challenge.rw_pg0080_01.row.prog w) (ktrTop dp un gd cn cs L a ccd cl outer) (call (.ref 52) [ins]) Q E s := by
  k_dflt (refine' call_cls ?k1 ?k2 ?k3 ?k4 ?k5 ?k6 ?_; (case k1 => k_asm); (case k2 => k_asm); (case k3 => k_asm); (case k4 => k_is); (case k5 => k_is); (case k6 => k_is); k_whole; intro x' d' h' F' N' l1 l2)
  have l1k := l1
  (try k_lt2 l2)
  k_dflt ktr_enter
  k_steps
  rename News _ _ _ _ => N9
  rename Fr _ _ _ _ => F9
  exact h (fun i => [_, _, _, _].getD i 0) (fun i => [_, _, _, _].getD i 0) _ _ _ _ _ _ _ l1k (by omega) (by omega) F9 N9
end
end
section
theorem seed20 : True := by
  w_top off
  exact True.intro
section
variable {w : World} {dp un : Nat} {gd : Option (List Code)} {cn : Str} {cs : Scope} {a : Addr} {ccd : Value} {cl : List (Str × Addr)} {outer : List Env} {A₀ : Around} {base h₀ : Heap} {L : Addr} {m : Str → Option Value} {rest : List (Addr × Obj)} {s : Shared}
    {Q E : Value → Shared → Prop} {Q2 : Flow → Shared → Prop} {p : Program} {loose : List Str} {mean : ExcName → Option Value} {mg mb : Str → Option Value}
def fnIn : Option Obj → Option (List Stmt × Scope)
  | some ⟨_, _, .func fd, _⟩ => (match fd.body with
    | .stmts b => some (b, fd.scope)
    | _ => none)
  | _ => none
noncomputable abbrev lawP : Σ' (b : List Stmt) (sc : Scope), ∀ P, fnIn ((hd.heap_39 P).lookup 146) = some (b, sc) := ⟨_, _, by with_unfolding_all exact fun _ => rfl⟩
noncomputable abbrev lawCl (L : Addr) : List (Str × Addr) := cellsFrom (L + 1) lawP.2.1.names []
noncomputable abbrev lawE (L a : Addr) (ccd : Value) : Env := envX (Str.ofString "law") lawP.2.1 L a ccd (lawCl L)
structure Cs where
  (script count k ring words blanks line ones : Obj)
abbrev csL (L : Addr) (c : Cs) (ps : Array Value) : List (Addr × Obj) := [(L + 1 + 1 + 1 + 1 + 1 + 1 + 1 + 1, c.ones), (L + 1 + 1 + 1 + 1 + 1 + 1 + 1, c.line), (L + 1 + 1 + 1 + 1 + 1 + 1, c.blanks), (L + 1 + 1 + 1 + 1 + 1, c.words), (L + 1 + 1 + 1 + 1, c.ring), (L + 1 + 1 + 1, c.k), (L + 1 + 1, c.count), (L + 1, c.script), (121, tabObj ps)]
abbrev isC (o : Obj) (v : Option Value) : Prop := o.data = .cell v
theorem slice_ints {vs : List Value} {ns : List Int} (h : IntsAre vs ns) : ∀ l : List Nat, ∃ ms, IntsAre (l.filterMap fun i => vs.toArray[i]?) ms
  | [] => ⟨[], .nil⟩
  | i :: l => by
    obtain ⟨ms, hm⟩ := slice_ints h l
    rw [List.filterMap_cons]
    cases e : vs.toArray[i]? with
    | none => exact ⟨ms, hm⟩
    | some v =>
      have hv : v ∈ vs := by simpa using Array.mem_of_getElem? e
      obtain ⟨x, t, rfl⟩ : ∃ x t, v = .int x t := by
        clear e hm
        induction h with
        | nil => cases hv
        | cons y u _ ih =>
          rcases List.mem_cons.mp hv with rfl | hv
          · exact ⟨_, _, rfl⟩
          · exact ih hv
      exact ⟨x :: ms, .cons _ _ hm⟩
theorem pick_ints {vs : List Value} {ns : List Int} (h : IntsAre vs ns) (lo hi st : Option Int) : ∃ ms, IntsAre (slicePick vs.toArray lo hi st).toList ms := by
  unfold slicePick
  exact slice_ints h _
section
variable {prog : Program} {w : World} {A : Around} {E : Value → Shared → Prop} {s : Shared} {h₀ : Heap} {L : Addr} {m : Str → Option Value} {news : List (Addr × Obj)}
theorem tup_int {value slice : PySem.Expr} {l : Addr} {vs : List Value} {ns : List Int} {k : Int} {u : Tok} {n j : Nat} {Q : Value → Shared → Prop} (N : News h₀ L s.heap news) (hm : (l, ({ cls := .type "tuple", data := .seq vs.toArray n } : Obj)) ∈ news) (hi : IntsAre vs ns) (hk : k = (j : Int)) (hj : j < ns.length) (hj2 : j < 1000)
    (h : ∀ x t, Q (.int x t) s) (hs : subscripted slice false (.ref l) (.int k u) = operate [.ref l, .int k u] (getItem (.ref l) (.int k u)) := by with_unfolding_all rfl) :
    wpAny (model prog w) A (subscriptTail value slice (.ref l) (.int k u)) Q E s := by
  obtain ⟨t, ht⟩ := ints_at hi hj
  exact tup_in N hm hk hj2 ht (h _ _) hs
end
theorem ints_len0 {vs : List Value} {ns : List Int} (h : IntsAre vs ns) : ns.length = vs.length := (ints_len h).symm
theorem wpAny_tok1 {α : Type} {M : Model} {A : Around} {s : Shared} {t : Sem α} {Q : α → Shared → Prop} {E : Value → Shared → Prop} {n : Nat} (hn : n ≤ s.toks) (h : wpAny M A t (fun a s' => n ≤ s'.toks → Q a s') E s) : wpAny M A t Q E s :=
  wpAny_mono (wpAny_toks_of hn h) (fun _ _ z => z.2 z.1) fun _ _ z => z.2
theorem ints_snoc {vs : List Value} {xs : List Int} {y : Int} {t : Tok} (h : IntsAre vs xs) : IntsAre (vs ++ [.int y t]) (xs ++ [y]) := by
  induction h with
  | nil => exact .cons _ _ .nil
  | cons z u _ ih => exact .cons _ _ ih
def signs8 : List Nat := [97, 98, 34, 92, 32, 10, 35, 9]
def wordOf (x : Int) : List Nat := List.replicate ((x.fdiv 8).fmod 3).toNat (signs8.getD (x.fmod 8).toNat 0)
def signs4 : List Nat := [10, 9, 13, 32]
def blankOf (x : Int) : Nat := signs4.getD ((x.fdiv 24).fmod 4).toNat 0
theorem fmod_bnd (x : Int) (b : Nat) (hb : 0 < b) : ∃ j : Nat, x.fmod (b : Int) = (j : Int) ∧ j < b := by
  have h1 := Int.emod_nonneg x (show (b : Int) ≠ 0 by omega)
  have h2 := Int.emod_lt_of_pos x (show (0 : Int) < b by omega)
  refine ⟨(x.fmod b).toNat, ?_, ?_⟩ <;> rw [Int.fmod_eq_emod_of_nonneg _ (by omega)] <;> omega
theorem item8 : ∀ j : Nat, j < 8 → Txt.item (Str.ofString "ab\"\\ \n#\t") (j : Int) = mkS [signs8.getD j 0] := by
  intro j hj
  have : j = 0 ∨ j = 1 ∨ j = 2 ∨ j = 3 ∨ j = 4 ∨ j = 5 ∨ j = 6 ∨ j = 7 := by omega
  rcases this with rfl | rfl | rfl | rfl | rfl | rfl | rfl | rfl <;> decide +kernel
theorem item4 : ∀ j : Nat, j < 4 → Txt.item (Str.ofString "\n\t\r ") (j : Int) = mkS [signs4.getD j 0] := by
  intro j hj
  have : j = 0 ∨ j = 1 ∨ j = 2 ∨ j = 3 := by omega
  rcases this with rfl | rfl | rfl | rfl <;> decide +kernel
theorem mul1 (c j : Nat) (hj : j < 3) : Txt.mul (mkS [c]) (j : Int) = mkS (List.replicate j c) := by
  have : j = 0 ∨ j = 1 ∨ j = 2 := by omega
  rcases this with rfl | rfl | rfl <;> rfl
def nameS : List Str := [Str.ofString "concat", Str.ofString "add", Str.ofString "sub", Str.ofString "xor", Str.ofString "or_", Str.ofString "and_"]
structure Nm (l : List (Str × Tok)) : Prop where
  map : l.map Prod.fst = nameS
  pos : ∀ q ∈ l, @LT.lt Nat _ 0 q.2
  one : ∀ q ∈ l, ∀ r ∈ l, @Eq Nat q.2 r.2 → q.1 = r.1
theorem txts_drop (l : List (Str × Tok)) (j : Nat) : (txts l).drop j = txts (l.drop j) := List.map_drop.symm
theorem txts_take (l : List (Str × Tok)) (j : Nat) : (txts l).take j = txts (l.take j) := List.map_take.symm
theorem pick_from (vs : List Value) (j : Nat) (hj : j ≤ vs.length) : slicePick vs.toArray (some (j : Int)) none none = (vs.drop j).toArray := by
  rw [kmk_pick_nat vs.toArray (a := j) (b := vs.length) (by simp [sliceBounds]; omega)]
  congr 1
  rw [List.take_of_length_le (by simp)]
theorem pick_to (vs : List Value) (j : Nat) (hj : j ≤ vs.length) : slicePick vs.toArray none (some (j : Int)) none = (vs.take j).toArray := by
  rw [kmk_pick_nat vs.toArray (a := 0) (b := j) (by simp [sliceBounds]; omega)]
  simp
abbrev nameL (t0 t1 t2 t3 t4 t5 : Tok) : List (Str × Tok) := [(Str.ofString "concat", t0), (Str.ofString "add", t1), (Str.ofString "sub", t2), (Str.ofString "xor", t3), (Str.ofString "or_", t4), (Str.ofString "and_", t5)]
abbrev sv (x : String) (t : Tok) : Value := .str (Str.ofString x) t
theorem names_led {h₀ h : Heap} {L d : Addr} {n : Nat} {t0 t1 t2 t3 t4 t5 : Tok} {r : List (Addr × Obj)} {l : List (Str × Tok)} (N : News h₀ L h ((d, W.listOf [sv "concat" t0, sv "add" t1, sv "sub" t2, sv "xor" t3, sv "or_" t4, sv "and_" t5].toArray n) :: r)) (hl : l = nameL t0 t1 t2 t3 t4 t5) :
    News h₀ L h ((d, W.listOf (txts l).toArray n) :: r) := by
  subst hl
  exact N
end
end
section
theorem seed21 : True := by
  w_top off
  exact True.intro
section
variable {w : World} {dp un : Nat} {gd : Option (List Code)} {cn : Str} {cs : Scope} {a : Addr} {ccd : Value} {cl : List (Str × Addr)} {outer : List Env} {A₀ : Around} {base h₀ : Heap} {L : Addr} {m : Str → Option Value} {rest : List (Addr × Obj)} {s : Shared}
    {Q E : Value → Shared → Prop} {Q2 : Flow → Shared → Prop} {p : Program} {loose : List Str} {mean : ExcName → Option Value} {mg mb : Str → Option Value}
theorem fmod3 (x b : Int) (hb : 0 ≤ b) : ∃ k : Nat, b + x.fmod 3 = (k : Int) ∧ b.toNat ≤ k ∧ k ≤ b.toNat + 2 := by
  have h1 := Int.emod_nonneg x (show (3 : Int) ≠ 0 by decide)
  have h2 := Int.emod_lt_of_pos x (show (0 : Int) < 3 by decide)
  refine ⟨(b + x.fmod 3).toNat, ?_, ?_, ?_⟩ <;> rw [Int.fmod_eq_emod_of_nonneg _ (by decide)] <;> omega
theorem st_A1 {a : Addr} {ccd : Value} {c : Cs} {sl : Addr} {vs : List Value} {ns : List Int} {ps : Array Value}
    (hdp : dp < 370) (hun : un < 160)
    (B : Below A₀ base outer h₀) (F : Fr h₀ L s.heap m) (X : (hd.heap_39 w.params).In h₀) (N : News h₀ L s.heap (csL L c ps)) (T : Top p loose mean mg mb h₀) (hE : PassesOwn (model Challenge.rw_pg0080_01.row.prog w) (ktrTop dp un gd (Str.ofString "law") lawP.2.1 L a ccd (lawCl L) outer) (lawE L a ccd) E)
    (c1 : isC c.script (some (.ref sl))) (c2 : isC c.count none) (hsl : h₀.IsList sl vs.toArray) (hvs : IntsAre vs ns) (hns : ns.length ≤ 63) (hL : @LT.lt Nat _ 121 L)
    (h : ∀ m' h' tk' o2 t2 t3 (n R : Nat), 3 ≤ n → n ≤ 5 → 2 ≤ R → R ≤ 4 → isC o2 (some (.int (n : Int) t2)) → m' (Str.ofString "rounds") = some (.int (R : Int) t3) → 0 < tk' → Fr h₀ L h' m' → News h₀ L h' (csL L { c with count := o2 } ps) →
      wpAny (model Challenge.rw_pg0080_01.row.prog w) (ktrTop dp un gd (Str.ofString "law") lawP.2.1 L a ccd (lawCl L) outer) (execs (lawP.1.drop 1) (lawE L a ccd)) Q2 E { s with heap := h', toks := tk' }) :
    wpAny (model Challenge.rw_pg0080_01.row.prog w) (ktrTop dp un gd (Str.ofString "law") lawP.2.1 L a ccd (lawCl L) outer) (execs lawP.1 (lawE L a ccd)) Q2 E s := by
  obtain ⟨o1, o2, o3, o4, o5, o6, o7, o8⟩ := c
  dsimp only [csL, isC, lawP, List.cons_append, List.nil_append] at *
  iterate 48 (first | (k_unfold; (try dsimp only)) | (k_end; wrow_close) | walk1 | (dsimp only; walk1) | (leave1; walk_say "STEP leave1"; try dsimp only) | fail "no step")
  rename News _ _ _ _ => N9
  rename Fr _ _ _ _ => F9
  obtain ⟨k1, e1, l1, u1⟩ := fmod3 (ns.length : Int) 3 (by decide)
  obtain ⟨k2, e2, l2, u2⟩ := fmod3 (List.take 1 ns).sum 2 (by decide)
  have l1 : 3 ≤ k1 := l1
  have u1 : k1 ≤ 5 := u1
  have l2 : 2 ≤ k2 := l2
  have u2 : k2 ≤ 4 := u2
  rw [e2] at F9
  rename Obj.data _ = Data.cell (some (Value.int _ _)) => d9
  rw [e1] at d9
  refine h _ _ _ _ _ _ k1 k2 l1 u1 l2 u2 d9 rfl ?_ F9 (news_sub N9 fun q hq => List.mem_cons_of_mem _ (List.mem_cons_of_mem _ hq))
  show 0 < _ + 1
  exact Nat.succ_pos _
end
end
section
theorem seed22 : True := by
  w_top off
  exact True.intro
section
variable {w : World} {dp un : Nat} {gd : Option (List Code)} {cn : Str} {cs : Scope} {a : Addr} {ccd : Value} {cl : List (Str × Addr)} {outer : List Env} {A₀ : Around} {base h₀ : Heap} {L : Addr} {m : Str → Option Value} {rest : List (Addr × Obj)} {s : Shared}
    {Q E : Value → Shared → Prop} {Q2 : Flow → Shared → Prop} {p : Program} {loose : List Str} {mean : ExcName → Option Value} {mg mb : Str → Option Value}
theorem st_A2 {a : Addr} {ccd : Value} {c : Cs} {sl : Addr} {vs : List Value} {ns : List Int} {ps : Array Value} {n R : Nat} {t2 t3 : Tok}
    (hdp : dp < 370) (hun : un < 160)
    (B : Below A₀ base outer h₀) (F : Fr h₀ L s.heap m) (X : (hd.heap_39 w.params).In h₀) (N : News h₀ L s.heap (csL L c ps)) (T : Top p loose mean mg mb h₀) (hE : PassesOwn (model Challenge.rw_pg0080_01.row.prog w) (ktrTop dp un gd (Str.ofString "law") lawP.2.1 L a ccd (lawCl L) outer) (lawE L a ccd) E)
    (c1 : isC c.script (some (.ref sl))) (c2 : isC c.count (some (.int (n : Int) t2))) (c4 : isC c.ring none) (hsl : h₀.IsList sl vs.toArray) (hvs : IntsAre vs ns) (hns : ns.length ≤ 63) (hL : @LT.lt Nat _ 121 L)
    (hn3 : 3 ≤ n) (hn5 : n ≤ 5) (hm : m (Str.ofString "rounds") = some (.int (R : Int) t3)) (htk : 0 < s.toks)
    (h : ∀ m' h' tk' o4 rl rs (xs : List Int) nr, IntsAre rs xs → xs.length = n → isC o4 (some (.ref rl)) → m' (Str.ofString "rounds") = some (.int (R : Int) t3) → 0 < tk' → LCg.Off1 rl (csL L c ps) → Fr h₀ L h' m' → News h₀ L h' ((rl, W.listOf rs.toArray nr) :: csL L { c with ring := o4 } ps) →
      wpAny (model Challenge.rw_pg0080_01.row.prog w) (ktrTop dp un gd (Str.ofString "law") lawP.2.1 L a ccd (lawCl L) outer) (execs (lawP.1.drop 2) (lawE L a ccd)) Q2 E { s with heap := h', toks := tk' }) :
    wpAny (model Challenge.rw_pg0080_01.row.prog w) (ktrTop dp un gd (Str.ofString "law") lawP.2.1 L a ccd (lawCl L) outer) (execs (lawP.1.drop 1) (lawE L a ccd)) Q2 E s := by
  obtain ⟨o1, o2, o3, o4, o5, o6, o7, o8⟩ := c
  dsimp only [csL, isC, lawP, List.cons_append, List.nil_append, List.drop] at *
  refine wpAny_execs_cons ?_
  refine wpAny_tok1 (n := 1) htk ?_
  iterate 9 (first | (k_unfold; (try dsimp only)) | (k_end; wrow_close) | walk1 | (dsimp only; walk1) | (leave1; walk_say "STEP leave1"; try dsimp only) | fail "no step")
  k_dflt (refine LCg.CompSrc.range (n := n) (by rfl) (by k_asm) (by k_asm) (by assumption) (rng_small _ (by omega)) (rng_size _) (by rw [PySem.sizeLine_eq]; omega) ?_; intro g9)
  refine comp_J (fun i ys nw => nw = csL L ⟨o1, o2, o3, o4, o5, o6, o7, o8⟩ ps ∧ ∃ xs, IntsAre ys xs ∧ xs.length = i) ⟨rfl, [], .nil, rfl⟩ ?_ ?_
  · intro i ys news₁ v I oI C oC D m₂ h tk E' hi hJ hv hC hx F N off ne
    refine wp_name fun Q9 hQ9 => ?_
    obtain ⟨rfl, xs, hxs, hxl⟩ := hJ
    obtain ⟨t, rfl⟩ := hv
    obtain ⟨ne1, ne2, ne3⟩ := ne
    rw [show (0 : Int) + (i : Int) = (i : Int) by omega] at hx
    dsimp only [csL, isC, List.cons_append, List.nil_append] at N off
    iterate 18 (first | (k_unfold; (try dsimp only)) | (k_end; wrow_close) | walk1 | (dsimp only; walk1) | (leave1; walk_say "STEP leave1"; try dsimp only) | fail "no step")
    refine tup_int (ns := [10, 19, -10, 12, 24]) (by k_asm) (by k_mem) (.cons _ _ (.cons _ _ (.cons _ _ (.cons _ _ (.cons _ _ .nil))))) rfl (by show _ < 5; omega) (by omega) ?_
    intro x0 t0
    iterate 13 (first | (k_unfold; (try dsimp only)) | (k_end; wrow_close) | walk1 | (dsimp only; walk1) | (leave1; walk_say "STEP leave1"; try dsimp only) | fail "no step")
    have hvl := ints_len hvs
    obtain ⟨ms, hms⟩ := pick_ints hvs (some (i : Int)) (some 20) (some (n : Int))
    k_dflt (refine kmk_slice3_lit (by k_asm) (by k_asm) (Fr.lst (by k_asm) hsl) (IsPart.int _ _) (IsPart.int _ _) (IsPart.int _ _) (fun e => by have := Option.some.inj e; omega) rfl ?_ (by with_unfolding_all rfl) (by intro _; with_unfolding_all rfl) (by rw [PySem.sizeLine_eq]; simp; omega))
    intro SL h' F' N' l1
    iterate 3 (first | (k_unfold; (try dsimp only)) | (k_end; wrow_close) | walk1 | (dsimp only; walk1) | (leave1; walk_say "STEP leave1"; try dsimp only) | fail "no step")
    rename News _ _ _ _ => N9
    rename Fr _ _ _ _ => F9
    refine hQ9 _ _ ?_
    exact LCg.CompEnd.intro F9 N9 (csL L ⟨o1, o2, o3, o4, o5, o6, o7, o8⟩ ps) (fun q hq => List.mem_cons_of_mem _ (List.mem_cons_of_mem _ hq)) off trivial ⟨rfl, xs ++ [_], ints_snoc hxs, by simp [hxl]⟩
  · intro ys news₁ hJ
    obtain ⟨rfl, xs, hxs, hxl⟩ := hJ
    unfold LCg.FinE
    intro SD h' tk' F' N' o1'
    dsimp only [csL, List.cons_append, List.nil_append] at N' o1' ⊢
    iterate 1 (first | (k_unfold; (try dsimp only)) | (k_end; wrow_close) | walk1 | (dsimp only; walk1) | (leave1; walk_say "STEP leave1"; try dsimp only) | fail "no step")
    intro htk
    exact h _ _ _ _ _ _ _ _ hxs hxl (by assumption) hm htk o1' (by k_asm) (by k_asm)
end
end
section
theorem seed23 : True := by
  w_top off
  exact True.intro
section
variable {w : World} {dp un : Nat} {gd : Option (List Code)} {cn : Str} {cs : Scope} {a : Addr} {ccd : Value} {cl : List (Str × Addr)} {outer : List Env} {A₀ : Around} {base h₀ : Heap} {L : Addr} {m : Str → Option Value} {rest : List (Addr × Obj)} {s : Shared}
    {Q E : Value → Shared → Prop} {Q2 : Flow → Shared → Prop} {p : Program} {loose : List Str} {mean : ExcName → Option Value} {mg mb : Str → Option Value}
theorem st_A3 {a : Addr} {ccd : Value} {c : Cs} {rl : Addr} {rs : List Value} {xs : List Int} {ps : Array Value} {n R nr : Nat} {t3 : Tok}
    (hdp : dp < 370) (hun : un < 160)
    (B : Below A₀ base outer h₀) (F : Fr h₀ L s.heap m) (X : (hd.heap_39 w.params).In h₀) (N : News h₀ L s.heap ((rl, W.listOf rs.toArray nr) :: csL L c ps)) (T : Top p loose mean mg mb h₀) (hE : PassesOwn (model Challenge.rw_pg0080_01.row.prog w) (ktrTop dp un gd (Str.ofString "law") lawP.2.1 L a ccd (lawCl L) outer) (lawE L a ccd) E)
    (c4 : isC c.ring (some (.ref rl))) (c5 : isC c.words none) (hrs : IntsAre rs xs) (hxl : xs.length = n) (hL : @LT.lt Nat _ 121 L) (o4 : LCg.Off1 rl (csL L c ps))
    (hn3 : 3 ≤ n) (hn5 : n ≤ 5) (hm : m (Str.ofString "rounds") = some (.int (R : Int) t3)) (htk : 0 < s.toks)
    (h : ∀ m' h' tk' o5 wl ws nw, StrsAre ws (xs.map fun x => mkS (wordOf x)) → isC o5 (some (.ref wl)) → m' (Str.ofString "rounds") = some (.int (R : Int) t3) → 0 < tk' → LCg.Off1 wl ((rl, W.listOf rs.toArray nr) :: csL L c ps) → Fr h₀ L h' m' → News h₀ L h' ((wl, W.listOf ws.toArray nw) :: (rl, W.listOf rs.toArray nr) :: csL L { c with words := o5 } ps) →
      wpAny (model Challenge.rw_pg0080_01.row.prog w) (ktrTop dp un gd (Str.ofString "law") lawP.2.1 L a ccd (lawCl L) outer) (execs (lawP.1.drop 3) (lawE L a ccd)) Q2 E { s with heap := h', toks := tk' }) :
    wpAny (model Challenge.rw_pg0080_01.row.prog w) (ktrTop dp un gd (Str.ofString "law") lawP.2.1 L a ccd (lawCl L) outer) (execs (lawP.1.drop 2) (lawE L a ccd)) Q2 E s := by
  obtain ⟨o1, o2, o3, o4', o5, o6, o7, o8⟩ := c
  dsimp only [csL, isC, lawP, List.cons_append, List.nil_append, List.drop] at *
  have hrl := ints_len hrs
  refine wpAny_execs_cons ?_
  refine wpAny_tok1 (n := 1) htk ?_
  iterate 1 (first | (k_unfold; (try dsimp only)) | (k_end; wrow_close) | walk1 | (dsimp only; walk1) | (leave1; walk_say "STEP leave1"; try dsimp only) | fail "no step")
  k_dflt (refine LCg.ListComp_U (F₀ := by k_asm) (by with_unfolding_all rfl) (by decide) (by rfl) (by decide) (by rfl) ?_)
  iterate 1 (first | (k_unfold; (try dsimp only)) | (k_end; wrow_close) | walk1 | (dsimp only; walk1) | (leave1; walk_say "STEP leave1"; try dsimp only) | fail "no step")
  k_dflt (refine LCg.CompSrc.ledger (by rfl) (by k_asm) (by k_asm) (by k_mem) (by rw [PySem.sizeLine_eq, List.size_toArray]; omega) ?_; intro g9)
  refine comp_J (fun i ys nw => nw = (rl, W.listOf rs.toArray nr) :: csL L ⟨o1, o2, o3, o4', o5, o6, o7, o8⟩ ps ∧ StrsAre ys ((xs.take i).map fun x => mkS (wordOf x))) ⟨rfl, .nil⟩ ?_ ?_
  · intro i ys news₁ v I oI C oC D m₂ h tk E' hi hJ hv hC hx F N off ne
    refine wp_name fun Q9 hQ9 => ?_
    obtain ⟨rfl, hys⟩ := hJ
    have hi' : i < xs.length := by rw [List.size_toArray, hrl] at hi; exact hi
    obtain ⟨t, ht⟩ := ints_at hrs hi'
    obtain ⟨x, hx0⟩ : ∃ x, xs.getD i 0 = x := ⟨_, rfl⟩
    rw [hx0] at ht
    obtain rfl : v = .int x t := by
      rw [List.getElem?_toArray, ht] at hv
      exact (Option.some.inj hv).symm
    have hxi : xs[i]? = some x := by rw [← hx0]; simp [List.getD, List.getElem?_eq_getElem hi']
    obtain ⟨ne1, ne2, ne3⟩ := ne
    dsimp only [csL, isC, List.cons_append, List.nil_append] at N off
    obtain ⟨j8, e8, l8⟩ := fmod_bnd x 8 (by decide)
    obtain ⟨j3, e3, l3⟩ := fmod_bnd (x.fdiv 8) 3 (by decide)
    iterate 7 (first | (k_unfold; (try dsimp only)) | (k_end; wrow_close) | walk1 | (dsimp only; walk1) | (leave1; walk_say "STEP leave1"; try dsimp only) | fail "no step")
    dsimp only
    rw [show x.fmod 8 = (j8 : Int) from e8]
    refine KXi.item (n := 8) (by decide +kernel) (by omega) (by omega) (by omega) ?_
    intro _
    rw [item8 j8 l8]
    dsimp only
    iterate 7 (first | (k_unfold; (try dsimp only)) | (k_end; wrow_close) | walk1 | (dsimp only; walk1) | (leave1; walk_say "STEP leave1"; try dsimp only) | fail "no step")
    dsimp only
    rw [show (x.fdiv 8).fmod 3 = (j3 : Int) from e3]
    refine KXi.mul (n := 1) (by rfl) (by omega) (by omega) (by omega) ?_
    intro t' k _ _
    rw [mul1 _ j3 l3]
    have ew : mkS (List.replicate j3 (signs8.getD j8 0)) = mkS (wordOf x) := by
      unfold wordOf
      rw [show (x.fdiv 8).fmod 3 = (j3 : Int) from e3, show x.fmod 8 = (j8 : Int) from e8, Int.toNat_natCast, Int.toNat_natCast]
    rw [ew]
    refine hQ9 _ _ ?_
    refine LCg.CompEnd.intro F N _ (fun q hq => hq) off (.inr ⟨_, by k_mem, rfl, _, rfl⟩) ⟨rfl, ?_⟩
    rw [List.take_add_one, hxi, List.map_append]
    exact strs_snoc hys
  · intro ys news₁ hJ
    obtain ⟨rfl, hys⟩ := hJ
    unfold LCg.FinE
    intro SD h' tk' F' N' o1'
    dsimp only [csL, List.cons_append, List.nil_append] at N' o1' ⊢
    iterate 1 (first | (k_unfold; (try dsimp only)) | (k_end; wrow_close) | walk1 | (dsimp only; walk1) | (leave1; walk_say "STEP leave1"; try dsimp only) | fail "no step")
    intro htk
    rw [show rs.toArray.size = xs.length by rw [List.size_toArray, hrl], List.take_length] at hys
    exact h _ _ _ _ _ _ _ hys (by assumption) hm htk o1' (by k_asm) (by k_asm)
end
end
section
theorem seed24 : True := by
  w_top off
  exact True.intro
section
variable {w : World} {dp un : Nat} {gd : Option (List Code)} {cn : Str} {cs : Scope} {a : Addr} {ccd : Value} {cl : List (Str × Addr)} {outer : List Env} {A₀ : Around} {base h₀ : Heap} {L : Addr} {m : Str → Option Value} {rest : List (Addr × Obj)} {s : Shared}
    {Q E : Value → Shared → Prop} {Q2 : Flow → Shared → Prop} {p : Program} {loose : List Str} {mean : ExcName → Option Value} {mg mb : Str → Option Value}
theorem off1_size {h₀ h : Heap} {L : Addr} : ∀ {l : List (Addr × Obj)}, News h₀ L h l → LCg.Off1 h.objs.size l
  | [], _ => trivial
  | p :: l, N => ⟨Nat.ne_of_lt (Heap.lt_size (N p List.mem_cons_self).1), off1_size fun q hq => N q (List.mem_cons_of_mem _ hq)⟩
theorem off1_of {x : Addr} : ∀ {r : List (Addr × Obj)}, (∀ q ∈ r, @LT.lt Nat _ q.1 x) → LCg.Off1 x r
  | [], _ => trivial
  | p :: l, h => ⟨Nat.ne_of_lt (h p List.mem_cons_self), off1_of fun q hq => h q (List.mem_cons_of_mem _ hq)⟩
theorem off1_lt {h₀ h : Heap} {L x : Addr} {o : Obj} {l r : List (Addr × Obj)} (_ : News h₀ L h ((x, o) :: l)) (k : ∀ q ∈ r, @LT.lt Nat _ q.1 x) : LCg.Off1 x r := off1_of k
theorem mem_d2 {α : Type} {a b c : α} {l : List α} : ∀ q ∈ a :: l, q ∈ a :: b :: c :: l := by
  ((repeat' (first | refine List.forall_mem_cons.mpr ⟨?_, ?_⟩ | refine List.forall_mem_append.mpr ⟨?_, ?_⟩)) <;> first | ((repeat (first | exact List.mem_cons_self | refine List.mem_cons_of_mem _ ?_ | refine List.mem_append_right _ ?_)); done) | exact List.forall_mem_nil _ | (intro q hq; (repeat (first | exact hq | exact List.mem_append_left _ hq | refine List.mem_cons_of_mem _ ?_ | refine List.mem_append_right _ ?_)); done))
theorem st_A4 {a : Addr} {ccd : Value} {c : Cs} {sl rl wl : Addr} {vs rs ws : List Value} {ns xs : List Int} {ps : Array Value} {n R nr nw : Nat} {t3 : Tok}
    (hdp : dp < 370) (hun : un < 160)
    (B : Below A₀ base outer h₀) (F : Fr h₀ L s.heap m) (X : (hd.heap_39 w.params).In h₀) (N : News h₀ L s.heap ((wl, W.listOf ws.toArray nw) :: (rl, W.listOf rs.toArray nr) :: csL L c ps)) (T : Top p loose mean mg mb h₀) (hE : PassesOwn (model Challenge.rw_pg0080_01.row.prog w) (ktrTop dp un gd (Str.ofString "law") lawP.2.1 L a ccd (lawCl L) outer) (lawE L a ccd) E)
    (c1 : isC c.script (some (.ref sl))) (hsl : h₀.IsList sl vs.toArray) (hvs : IntsAre vs ns) (hns : ns.length ≤ 63) (hL : @LT.lt Nat _ 121 L)
    (hm : m (Str.ofString "rounds") = some (.int (R : Int) t3)) (htk : 0 < s.toks)
    (h : ∀ m' h' tk' nl l nn tl j nt, Nm l → j < 6 → m' (Str.ofString "rounds") = some (.int (R : Int) t3) → m' (Str.ofString "names") = some (.ref nl) → m' (Str.ofString "turned") = some (.ref tl) → 0 < tk' → LCg.Off1 nl (csL L c ps) → LCg.Off1 tl (csL L c ps) →
      Fr h₀ L h' m' → News h₀ L h' ((tl, W.listOf (txts (l.drop j ++ l.take j)).toArray nt) :: (nl, W.listOf (txts l).toArray nn) :: (wl, W.listOf ws.toArray nw) :: (rl, W.listOf rs.toArray nr) :: csL L c ps) →
      wpAny (model Challenge.rw_pg0080_01.row.prog w) (ktrTop dp un gd (Str.ofString "law") lawP.2.1 L a ccd (lawCl L) outer) (execs (lawP.1.drop 5) (lawE L a ccd)) Q2 E { s with heap := h', toks := tk' }) :
    wpAny (model Challenge.rw_pg0080_01.row.prog w) (ktrTop dp un gd (Str.ofString "law") lawP.2.1 L a ccd (lawCl L) outer) (execs (lawP.1.drop 3) (lawE L a ccd)) Q2 E s := by
  obtain ⟨o1, o2, o3, o4', o5, o6, o7, o8⟩ := c
  dsimp only [csL, isC, lawP, List.cons_append, List.nil_append, List.drop] at *
  refine wpAny_execs_cons ?_
  iterate 17 (first | (k_unfold; (try dsimp only)) | (k_end; wrow_close) | walk1 | (dsimp only; walk1) | (leave1; walk_say "STEP leave1"; try dsimp only) | fail "no step")
  dsimp only
  obtain ⟨l, hl⟩ : ∃ l : List (Str × Tok), l = nameL s.toks (s.toks + 1) (s.toks + 1 + 1) (s.toks + 1 + 1 + 1) (s.toks + 1 + 1 + 1 + 1) (s.toks + 1 + 1 + 1 + 1 + 1) := ⟨_, rfl⟩
  have hnm : Nm l := by
    subst hl
    refine ⟨rfl, fun q hq => ?_, fun q hq r hr e => ?_⟩
    · simp only [List.mem_cons, List.not_mem_nil, or_false] at hq
      rcases hq with rfl | rfl | rfl | rfl | rfl | rfl <;> dsimp only <;> omega
    · simp only [List.mem_cons, List.not_mem_nil, or_false] at hq hr
      rcases hq with rfl | rfl | rfl | rfl | rfl | rfl <;> rcases hr with rfl | rfl | rfl | rfl | rfl | rfl <;> first | rfl | (dsimp only at e; omega)
  have hll : (txts l).length = 6 := by subst hl; rfl
  rename News _ _ _ _ => N9
  rename Fr _ _ _ _ => F9
  have on := off1_lt (x := _) (r := csL L ⟨o1, o2, o3, o4', o5, o6, o7, o8⟩ ps) N9 (by intro q hq; simp only [List.mem_cons, List.not_mem_nil, or_false] at hq; rcases hq with rfl | rfl | rfl | rfl | rfl | rfl | rfl | rfl | rfl <;> dsimp only <;> omega)
  have N10 := names_led N9 hl
  clear N9
  refine wpAny_execs_cons ?_
  obtain ⟨j, ej, lj⟩ := fmod_bnd (ns.length : Int) 6 (by decide)
  iterate 18 (first | (k_unfold; (try dsimp only)) | (k_end; wrow_close) | walk1 | (dsimp only; walk1) | (leave1; walk_say "STEP leave1"; try dsimp only) | fail "no step")
  k_dflt (refine kmk_slice (hi := none) (by k_asm) (by k_asm) (News.isList (by k_asm) (by k_mem)) (IsPart.int _ _) IsPart.none ?_ (by with_unfolding_all rfl) (by intro _; with_unfolding_all rfl) (by rw [PySem.sizeLine_eq, List.size_toArray, hll]; decide))
  intro d1 h1 F1 N1 l1
  rw [show (ns.length : Int).fmod 6 = (j : Int) from ej, pick_from _ _ (by omega), txts_drop] at N1
  clear N10
  iterate 16 (first | (k_unfold; (try dsimp only)) | (k_end; wrow_close) | walk1 | (dsimp only; walk1) | (leave1; walk_say "STEP leave1"; try dsimp only) | fail "no step")
  k_dflt (refine kmk_slice (lo := none) (by k_asm) (by k_asm) (News.isList (items := (txts l).toArray) (by k_asm) (by k_mem)) IsPart.none (IsPart.int _ _) ?_ (by with_unfolding_all rfl) (by intro _; with_unfolding_all rfl) (by rw [PySem.sizeLine_eq, List.size_toArray, hll]; decide))
  intro d2 h2 F2 N2 l2
  rw [show (ns.length : Int).fmod 6 = (j : Int) from ej, pick_to _ _ (by omega), txts_take] at N2
  clear N1
  have hld : (txts (l.drop j)).length + (txts (l.take j)).length ≤ sizeLine := by
    have : l.length = 6 := by simpa using hll
    rw [PySem.sizeLine_eq]
    simp
    omega
  k_dflt (refine add_lists (vs := txts (l.drop j)) (ws := txts (l.take j)) (by k_asm) (by k_asm) (News.isList (by k_asm) (by k_mem)) (News.isList (by k_asm) (by k_mem)) ?_ hld)
  intro h3 F3 N3
  rw [show txts (l.drop j) ++ txts (l.take j) = txts (l.drop j ++ l.take j) from List.map_append.symm] at N3
  have ot := (off1_size N2).2.2.2.2.2
  clear N2
  iterate 1 (first | (k_unfold; (try dsimp only)) | (k_end; wrow_close) | walk1 | (dsimp only; walk1) | (leave1; walk_say "STEP leave1"; try dsimp only) | fail "no step")
  dsimp only at *
  rename News _ _ _ _ => N9
  rename Fr _ _ _ _ => F9
  refine h _ _ _ _ l _ _ j _ hnm lj ?_ ?_ ?_ (Nat.succ_pos _) on ot F9 (news_sub N9 mem_d2)
  · exact hm
  · rfl
  · rfl
end
end
section
theorem seed25 : True := by
  w_top off
  exact True.intro
section
variable {w : World} {dp un : Nat} {gd : Option (List Code)} {cn : Str} {cs : Scope} {a : Addr} {ccd : Value} {cl : List (Str × Addr)} {outer : List Env} {A₀ : Around} {base h₀ : Heap} {L : Addr} {m : Str → Option Value} {rest : List (Addr × Obj)} {s : Shared}
    {Q E : Value → Shared → Prop} {Q2 : Flow → Shared → Prop} {p : Program} {loose : List Str} {mean : ExcName → Option Value} {mg mb : Str → Option Value}
theorem st_A5 {c : Cs} {sl rl wl nl tl bl : Addr} {rs ws bs vs : List Value} {xs ns : List Int} {l : List (Str × Tok)} {ps : Array Value} {n R nr nw nn nt nb j : Nat} {t2 t3 : Tok}
    (hdp : dp < 370) (hun : un < 160) (B : Below A₀ base outer h₀) (F : Fr h₀ L s.heap m) (X : (hd.heap_39 w.params).In h₀) (T : Top p loose mean mg mb h₀) (hE : PassesOwn (model Challenge.rw_pg0080_01.row.prog w) (ktrTop dp un gd (Str.ofString "law") lawP.2.1 L a ccd (lawCl L) outer) (lawE L a ccd) E) (hL : @LT.lt Nat _ 121 L) (N : News h₀ L s.heap ((tl, W.listOf (txts (l.drop j ++ l.take j)).toArray nt) :: (nl, W.listOf (txts l).toArray nn) :: (wl, W.listOf ws.toArray nw) :: (rl, W.listOf rs.toArray nr) :: csL L c ps))
    (c4 : isC c.ring (some (.ref rl))) (c6 : isC c.blanks none) (hrs : IntsAre rs xs) (hxl : xs.length = n) (fr : LCg.Off1 rl (csL L c ps)) (fw : LCg.Off1 wl (csL L c ps)) (fn : LCg.Off1 nl (csL L c ps)) (ft : LCg.Off1 tl (csL L c ps))
    (hn3 : 3 ≤ n) (hn5 : n ≤ 5) (hm : m (Str.ofString "rounds") = some (.int (R : Int) t3)) (hm2 : m (Str.ofString "names") = some (.ref nl)) (hm3 : m (Str.ofString "turned") = some (.ref tl)) (htk : 0 < s.toks)
    (h : ∀ h' tk' o6 bl bs nb, StrsAre bs (xs.map fun x => mkS [blankOf x]) → isC o6 (some (.ref bl)) → 0 < tk' → LCg.Off1 bl (csL L c ps) → Fr h₀ L h' m → News h₀ L h' ((bl, W.listOf bs.toArray nb) :: (tl, W.listOf (txts (l.drop j ++ l.take j)).toArray nt) :: (nl, W.listOf (txts l).toArray nn) :: (wl, W.listOf ws.toArray nw) :: (rl, W.listOf rs.toArray nr) :: csL L { c with blanks := o6 } ps) →
      wpAny (model Challenge.rw_pg0080_01.row.prog w) (ktrTop dp un gd (Str.ofString "law") lawP.2.1 L a ccd (lawCl L) outer) (execs (lawP.1.drop 6) (lawE L a ccd)) Q2 E { s with heap := h', toks := tk' }) :
    wpAny (model Challenge.rw_pg0080_01.row.prog w) (ktrTop dp un gd (Str.ofString "law") lawP.2.1 L a ccd (lawCl L) outer) (execs (lawP.1.drop 5) (lawE L a ccd)) Q2 E s := by
  obtain ⟨o1, o2, o3, o4', o5, o6, o7, o8⟩ := c
  dsimp only [csL, isC, lawP, List.cons_append, List.nil_append, List.drop] at *
  have hrl := ints_len hrs
  refine wpAny_execs_cons ?_
  refine wpAny_tok1 (n := 1) htk ?_
  iterate 1 (first | (k_unfold; (try dsimp only)) | (k_end; wrow_close) | walk1 | (dsimp only; walk1) | (leave1; walk_say "STEP leave1"; try dsimp only) | fail "no step")
  k_dflt (refine LCg.ListComp_U (F₀ := by k_asm) (by with_unfolding_all rfl) (by decide) (by rfl) (by decide) (by rfl) ?_)
  iterate 1 (first | (k_unfold; (try dsimp only)) | (k_end; wrow_close) | walk1 | (dsimp only; walk1) | (leave1; walk_say "STEP leave1"; try dsimp only) | fail "no step")
  k_dflt (refine LCg.CompSrc.ledger (by rfl) (by k_asm) (by k_asm) (by k_mem) (by rw [PySem.sizeLine_eq, List.size_toArray]; omega) ?_; intro g9)
  refine comp_J (fun i ys nw' => nw' = (tl, W.listOf (txts (l.drop j ++ l.take j)).toArray nt) :: (nl, W.listOf (txts l).toArray nn) :: (wl, W.listOf ws.toArray nw) :: (rl, W.listOf rs.toArray nr) :: csL L ⟨o1, o2, o3, o4', o5, o6, o7, o8⟩ ps ∧ StrsAre ys ((xs.take i).map fun x => mkS [blankOf x])) ⟨rfl, .nil⟩ ?_ ?_
  · intro i ys news₁ v I oI C oC D m₂ h tk E' hi hJ hv hC hx F N off ne
    refine wp_name fun Q9 hQ9 => ?_
    obtain ⟨rfl, hys⟩ := hJ
    have hi' : i < xs.length := by rw [List.size_toArray, hrl] at hi; exact hi
    obtain ⟨t, ht⟩ := ints_at hrs hi'
    obtain ⟨x, hx0⟩ : ∃ x, xs.getD i 0 = x := ⟨_, rfl⟩
    rw [hx0] at ht
    obtain rfl : v = .int x t := by
      rw [List.getElem?_toArray, ht] at hv
      exact (Option.some.inj hv).symm
    have hxi : xs[i]? = some x := by rw [← hx0]; simp [List.getD, List.getElem?_eq_getElem hi']
    obtain ⟨ne1, ne2, ne3⟩ := ne
    dsimp only [csL, isC, List.cons_append, List.nil_append] at N off
    obtain ⟨j4, e4, l4⟩ := fmod_bnd (x.fdiv 24) 4 (by decide)
    iterate 9 (first | (k_unfold; (try dsimp only)) | (k_end; wrow_close) | walk1 | (dsimp only; walk1) | (leave1; walk_say "STEP leave1"; try dsimp only) | fail "no step")
    dsimp only
    rw [show (x.fdiv 24).fmod 4 = (j4 : Int) from e4]
    refine KXi.item (n := 4) (by decide +kernel) (by omega) (by omega) (by omega) ?_
    intro _
    rw [item4 j4 l4]
    have ew : mkS [signs4.getD j4 0] = mkS [blankOf x] := by
      unfold blankOf
      rw [show (x.fdiv 24).fmod 4 = (j4 : Int) from e4, Int.toNat_natCast]
    rw [ew]
    refine hQ9 _ _ ?_
    refine LCg.CompEnd.intro F N _ (fun q hq => hq) off (.inr ⟨_, by k_mem, rfl, _, rfl⟩) ⟨rfl, ?_⟩
    rw [List.take_add_one, hxi, List.map_append]
    exact strs_snoc hys
  · intro ys news₁ hJ
    obtain ⟨rfl, hys⟩ := hJ
    unfold LCg.FinE
    intro SD h' tk' F' N' o1'
    dsimp only [csL, List.cons_append, List.nil_append] at N' o1' ⊢
    iterate 1 (first | (k_unfold; (try dsimp only)) | (k_end; wrow_close) | walk1 | (dsimp only; walk1) | (leave1; walk_say "STEP leave1"; try dsimp only) | fail "no step")
    intro htk
    rw [show rs.toArray.size = xs.length by rw [List.size_toArray, hrl], List.take_length] at hys
    exact h _ _ _ _ _ _ hys (by assumption) htk o1'.2.2.2.2 (by k_asm) (by k_asm)
end
end
section
theorem seed26 : True := by
  w_top off
  exact True.intro
section
variable {w : World} {dp un : Nat} {gd : Option (List Code)} {cn : Str} {cs : Scope} {a : Addr} {ccd : Value} {cl : List (Str × Addr)} {outer : List Env} {A₀ : Around} {base h₀ : Heap} {L : Addr} {m : Str → Option Value} {rest : List (Addr × Obj)} {s : Shared}
    {Q E : Value → Shared → Prop} {Q2 : Flow → Shared → Prop} {p : Program} {loose : List Str} {mean : ExcName → Option Value} {mg mb : Str → Option Value}
def pieceA (x : Int) : List Nat := blankOf x :: (34 :: encW (wordOf x) ++ [34])
def pieceB (q : Str × Tok) : List Nat := 10 :: (q.1.cps.toList ++ [9])
def textL (xs : List Int) (l : List (Str × Tok)) : List Nat := (xs.map pieceA).flatten ++ (l.map pieceB).flatten
theorem wordOf_len (x : Int) : (wordOf x).length ≤ 2 := by
  obtain ⟨j, e, lj⟩ := fmod_bnd (x.fdiv 8) 3 (by decide)
  unfold wordOf
  rw [show (x.fdiv 8).fmod 3 = (j : Int) from e, Int.toNat_natCast, List.length_replicate]
  omega
theorem getD_map1 {α β : Type} (f : α → β) (l : List α) (i : Nat) (d : β) (e : α) (hi : i < l.length) : (l.map f).getD i d = f (l.getD i e) := by
  simp [List.getD, List.getElem?_map, List.getElem?_eq_getElem hi]
theorem strs_app {vs us : List Value} {xs ys : List Str} (h : StrsAre vs xs) (h2 : StrsAre us ys) : StrsAre (vs ++ us) (xs ++ ys) := by
  induction h with
  | nil => exact h2
  | cons z u _ ih => exact .cons _ _ ih
theorem sum_leK (K : Nat) : ∀ l : List Str, (∀ x ∈ l, x.length ≤ K) → (l.map (·.length)).sum ≤ K * l.length
  | [], _ => Nat.zero_le _
  | x :: l, h => by
    have h1 := h x List.mem_cons_self
    have h2 := sum_leK K l fun y hy => h y (List.mem_cons_of_mem _ hy)
    simp only [List.map_cons, List.sum_cons, List.length_cons, Nat.mul_add, Nat.mul_one]
    omega
theorem nameS_len : ∀ x ∈ nameS, x.length ≤ 6 := by
  intro x hx
  simp only [nameS, List.mem_cons, List.not_mem_nil, or_false] at hx
  rcases hx with rfl | rfl | rfl | rfl | rfl | rfl <;> decide +kernel
theorem st_A6 {c : Cs} {sl rl wl nl tl bl : Addr} {rs ws bs vs : List Value} {xs ns : List Int} {l : List (Str × Tok)} {ps : Array Value} {n R nr nw nn nt nb j : Nat} {t2 t3 : Tok}
    (hdp : dp < 370) (hun : un < 160) (B : Below A₀ base outer h₀) (F : Fr h₀ L s.heap m) (X : (hd.heap_39 w.params).In h₀) (T : Top p loose mean mg mb h₀) (hE : PassesOwn (model Challenge.rw_pg0080_01.row.prog w) (ktrTop dp un gd (Str.ofString "law") lawP.2.1 L a ccd (lawCl L) outer) (lawE L a ccd) E) (hL : @LT.lt Nat _ 121 L) (N : News h₀ L s.heap ((bl, W.listOf bs.toArray nb) :: (tl, W.listOf (txts (l.drop j ++ l.take j)).toArray nt) :: (nl, W.listOf (txts l).toArray nn) :: (wl, W.listOf ws.toArray nw) :: (rl, W.listOf rs.toArray nr) :: csL L c ps))
    (c2 : isC c.count (some (.int (n : Int) t2))) (c5 : isC c.words (some (.ref wl))) (c6 : isC c.blanks (some (.ref bl))) (hxl : xs.length = n) (hws : StrsAre ws (xs.map fun x => mkS (wordOf x))) (hbs : StrsAre bs (xs.map fun x => mkS [blankOf x])) (hl : Nm l) (hj : j < 6)
    (hn3 : 3 ≤ n) (hn5 : n ≤ 5) (hm3 : m (Str.ofString "turned") = some (.ref tl)) (htk : 0 < s.toks)
    (h : ∀ m' h' tk' tt, m' (Str.ofString "text") = some (.str (mkS (textL xs (l.drop j ++ l.take j))) tt) → (∀ y, y ≠ Str.ofString "text" → m' y = m y) → 0 < tk' → Fr h₀ L h' m' → News h₀ L h' ((bl, W.listOf bs.toArray nb) :: (tl, W.listOf (txts (l.drop j ++ l.take j)).toArray nt) :: (nl, W.listOf (txts l).toArray nn) :: (wl, W.listOf ws.toArray nw) :: (rl, W.listOf rs.toArray nr) :: csL L c ps) →
      wpAny (model Challenge.rw_pg0080_01.row.prog w) (ktrTop dp un gd (Str.ofString "law") lawP.2.1 L a ccd (lawCl L) outer) (execs (lawP.1.drop 7) (lawE L a ccd)) Q2 E { s with heap := h', toks := tk' }) :
    wpAny (model Challenge.rw_pg0080_01.row.prog w) (ktrTop dp un gd (Str.ofString "law") lawP.2.1 L a ccd (lawCl L) outer) (execs (lawP.1.drop 6) (lawE L a ccd)) Q2 E s := by
  obtain ⟨o1, o2, o3, o4', o5, o6, o7, o8⟩ := c
  dsimp only [csL, isC, lawP, List.cons_append, List.nil_append, List.drop] at *
  have hll : l.length = 6 := by
    have := congrArg List.length hl.map
    simpa [nameS] using this
  have hZl : (l.drop j ++ l.take j).length = 6 := by simp; omega
  have hZn : ∀ q ∈ l.drop j ++ l.take j, q.1.length ≤ 6 := by
    intro q hq
    have hql : q ∈ l := by
      rcases List.mem_append.mp hq with hq | hq
      · exact List.mem_of_mem_drop hq
      · exact List.mem_of_mem_take hq
    have hqn : q.1 ∈ nameS := by rw [← hl.map]; exact List.mem_map_of_mem hql
    exact nameS_len q.1 hqn
  generalize l.drop j ++ l.take j = Z at *
  have hws' : StrsAre ws ((xs.map wordOf).map mkS) := by rw [List.map_map]; exact hws
  have hbs' : StrsAre bs ((xs.map fun x => [blankOf x]).map mkS) := by rw [List.map_map]; exact hbs
  refine wpAny_execs_cons ?_
  refine wpAny_tok1 (n := 1) htk ?_
  iterate 15 (first | (k_unfold; (try dsimp only)) | (k_end; wrow_close) | walk1 | (dsimp only; walk1) | (leave1; walk_say "STEP leave1"; try dsimp only) | fail "no step")
  k_dflt (refine LCg.CompSrc.range (n := n) (by rfl) (by k_asm) (by k_asm) (by assumption) (rng_small _ (by omega)) (rng_size _) (by rw [PySem.sizeLine_eq]; omega) ?_; intro g9)
  refine comp_J (fun i ys nw' => nw' = (bl, W.listOf bs.toArray nb) :: (tl, W.listOf (txts Z).toArray nt) :: (nl, W.listOf (txts l).toArray nn) :: (wl, W.listOf ws.toArray nw) :: (rl, W.listOf rs.toArray nr) :: csL L ⟨o1, o2, o3, o4', o5, o6, o7, o8⟩ ps ∧ StrsAre ys ((xs.take i).map fun x => mkS (pieceA x))) ⟨rfl, .nil⟩ ?_ ?_
  · intro i ys news₁ v I oI C oC D m₂ h tk E' hi hJ hv hC hx F N off ne
    refine wp_name fun Q9 hQ9 => ?_
    obtain ⟨rfl, hys⟩ := hJ
    obtain ⟨t, rfl⟩ := hv
    obtain ⟨ne1, ne2, ne3⟩ := ne
    rw [show (0 : Int) + (i : Int) = (i : Int) by omega] at hx
    have hi' : i < xs.length := by omega
    obtain ⟨x, hx0⟩ : ∃ x, xs.getD i 0 = x := ⟨_, rfl⟩
    have hxi : xs[i]? = some x := by rw [← hx0]; simp [List.getD, List.getElem?_eq_getElem hi']
    dsimp only [csL, isC, List.cons_append, List.nil_append] at N off
    iterate 5 (first | (k_unfold; (try dsimp only)) | (k_end; wrow_close) | walk1 | (dsimp only; walk1) | (leave1; walk_say "STEP leave1"; try dsimp only) | fail "no step")
    refine str_in (by k_asm) (by k_mem) hbs' (by simpa using hi') (by omega) ?_
    intro tb
    rw [getD_map1 (fun x => [blankOf x]) xs i [] 0 hi', hx0]
    iterate 7 (first | (k_unfold; (try dsimp only)) | (k_end; wrow_close) | walk1 | (dsimp only; walk1) | (leave1; walk_say "STEP leave1"; try dsimp only) | fail "no step")
    refine str_in (by k_asm) (by k_mem) hws' (by simpa using hi') (by omega) ?_
    intro tw
    rw [getD_map1 wordOf xs i [] 0 hi', hx0]
    iterate 2 (first | (k_unfold; (try dsimp only)) | (k_end; wrow_close) | walk1 | (dsimp only; walk1) | (leave1; walk_say "STEP leave1"; try dsimp only) | fail "no step")
    refine wpAny_call (c_quoted (un := un) (dp := dp) (Nat.lt_of_lt_of_le hdp (by decide)) (Nat.lt_of_lt_of_le hun (by decide)) (by k_asm) (by k_asm) (by k_asm) (by k_asm) (by k_asm) rfl (by have := wordOf_len x; omega) ?_)
    intro h' tk' t' F' N'
    have hle := encW_len (wordOf x)
    have hwl := wordOf_len x
    have hq : (mkS (34 :: encW (wordOf x) ++ [34])).length ≤ 8 := by simp [Str.length]; omega
    have e1 : mkS [blankOf x] ++ mkS (34 :: encW (wordOf x) ++ [34]) = mkS (pieceA x) := by rw [mkS_append]; rfl
    have hb : (mkS [blankOf x]).length = 1 := rfl
    generalize mkS (34 :: encW (wordOf x) ++ [34]) = q9 at *
    generalize mkS [blankOf x] = b9 at *
    iterate 1 (first | (k_unfold; (try dsimp only)) | (k_end; wrow_close) | walk1 | (dsimp only; walk1) | (leave1; walk_say "STEP leave1"; try dsimp only) | fail "no step")
    rename News _ _ _ _ => N9
    rename Fr _ _ _ _ => F9
    rw [e1]
    refine hQ9 _ _ ?_
    refine LCg.CompEnd.intro F9 N9 _ (fun q hq => hq) off trivial ⟨rfl, ?_⟩
    rw [List.take_add_one, hxi, List.map_append]
    exact strs_snoc hys
  · intro ys news₁ hJ
    obtain ⟨rfl, hys⟩ := hJ
    unfold LCg.FinE
    intro SD h' tk' F' N' o1'
    dsimp only [csL, List.cons_append, List.nil_append] at N' o1' ⊢
    k_dflt (refine LCg.ListComp_U (F₀ := by k_asm) (by with_unfolding_all rfl) (by decide) (by rfl) (by decide) (by rfl) ?_)
    iterate 1 (first | (k_unfold; (try dsimp only)) | (k_end; wrow_close) | walk1 | (dsimp only; walk1) | (leave1; walk_say "STEP leave1"; try dsimp only) | fail "no step")
    k_dflt (refine LCg.CompSrc.ledger (by rfl) (by k_asm) (by k_asm) (by k_mem) (by rw [PySem.sizeLine_eq, List.size_toArray, List.length_map, hZl]; decide) ?_; intro g10)
    refine comp_J (fun i ys2 nw' => nw' = (SD, LCg.lst ys) :: (bl, W.listOf bs.toArray nb) :: (tl, W.listOf (txts Z).toArray nt) :: (nl, W.listOf (txts l).toArray nn) :: (wl, W.listOf ws.toArray nw) :: (rl, W.listOf rs.toArray nr) :: csL L ⟨o1, o2, o3, o4', o5, o6, o7, o8⟩ ps ∧ StrsAre ys2 ((Z.take i).map fun q => mkS (pieceB q))) ⟨rfl, .nil⟩ ?_ ?_
    · intro i ys2 news₁ v I oI C oC D m₂ h tk E' hi hJ hv hC hx F N off ne
      refine wp_name fun Q9 hQ9 => ?_
      obtain ⟨rfl, hys2⟩ := hJ
      have hi' : i < Z.length := by simpa using hi
      obtain ⟨⟨y, u⟩, hq⟩ : ∃ q, Z[i]? = some q := ⟨_, List.getElem?_eq_getElem hi'⟩
      obtain rfl : v = .str y u := by
        rw [List.getElem?_toArray, List.getElem?_map, hq] at hv
        exact (Option.some.inj hv).symm
      have hyl : y.length ≤ 6 := hZn _ (List.mem_of_getElem? hq)
      obtain ⟨ne1, ne2, ne3⟩ := ne
      dsimp only [csL, isC, List.cons_append, List.nil_append] at N off
      iterate 7 (first | (k_unfold; (try dsimp only)) | (k_end; wrow_close) | walk1 | (dsimp only; walk1) | (leave1; walk_say "STEP leave1"; try dsimp only) | fail "no step")
      have e2 : Str.ofString "\n" ++ y ++ Str.ofString "\t" = mkS (pieceB (y, u)) := by
        rw [show Str.ofString "\n" = mkS [10] by decide +kernel, show Str.ofString "\t" = mkS [9] by decide +kernel]
        conv => lhs; rw [← mkS_toList y]
        rw [mkS_append, mkS_append]
        rfl
      rw [e2]
      refine hQ9 _ _ ?_
      refine LCg.CompEnd.intro F N _ (fun q hq => hq) off (.inr ⟨_, by k_mem, rfl, _, rfl⟩) ⟨rfl, ?_⟩
      rw [List.take_add_one, hq, List.map_append]
      exact strs_snoc hys2
    · intro ys2 news₁ hJ
      obtain ⟨rfl, hys2⟩ := hJ
      unfold LCg.FinE
      intro TD h' tk' F' N' o2'
      dsimp only [csL, List.cons_append, List.nil_append] at N' o2' ⊢
      rw [show (txts Z).toArray.size = Z.length by simp, List.take_length] at hys2
      rw [show n = xs.length from hxl.symm, List.take_length] at hys
      have hyl := strs_len hys
      have hyl2 := strs_len hys2
      rw [List.length_map] at hyl hyl2
      k_dflt (refine add_lists (vs := ys) (ws := ys2) (by k_asm) (by k_asm) (News.isList (by k_asm) (by k_mem)) (News.isList (by k_asm) (by k_mem)) ?_ (by rw [PySem.sizeLine_eq]; omega))
      intro h3 F3 N3
      iterate 1 (first | (k_unfold; (try dsimp only)) | (k_end; wrow_close) | walk1 | (dsimp only; walk1) | (leave1; walk_say "STEP leave1"; try dsimp only) | fail "no step")
      have hs3 := strs_app hys hys2
      have hwt : ((((xs.map fun x => mkS (pieceA x)) ++ Z.map fun q => mkS (pieceB q)).map (·.length)).sum) + ((xs.map fun x => mkS (pieceA x)) ++ Z.map fun q => mkS (pieceB q)).length ≤ 1048576 := by
        have := sum_leK 8 ((xs.map fun x => mkS (pieceA x)) ++ Z.map fun q => mkS (pieceB q)) (by
          intro x hx
          rcases List.mem_append.mp hx with hx | hx
          · obtain ⟨x, _, rfl⟩ := List.mem_map.mp hx
            have h1 := encW_len (wordOf x)
            have h2 := wordOf_len x
            simp [Str.length, pieceA]
            omega
          · obtain ⟨q, hq, rfl⟩ := List.mem_map.mp hx
            have := hZn q hq
            simp [Str.length, pieceB] at this ⊢
            omega)
        rw [List.length_append, List.length_map, List.length_map] at this ⊢
        omega
      refine join_listW (items := (ys ++ ys2).toArray) ⟨_, (N3 _ List.mem_cons_self).1, rfl, _, rfl⟩ hs3 (by decide +kernel) hwt ?_
      intro tt k
      have ej : Txt.join (Str.ofString "") ((xs.map fun x => mkS (pieceA x)) ++ Z.map fun q => mkS (pieceB q)) = mkS (textL xs Z) := by
        have := join_nil (xs.map pieceA ++ Z.map pieceB)
        rw [List.map_append, List.map_map, List.map_map, List.flatten_append] at this
        exact this
      rw [ej]
      iterate 1 (first | (k_unfold; (try dsimp only)) | (k_end; wrow_close) | walk1 | (dsimp only; walk1) | (leave1; walk_say "STEP leave1"; try dsimp only) | fail "no step")
      intro htk
      rename News _ _ _ _ => N9
      rename Fr _ _ _ _ => F9
      refine h _ _ _ tt ?_ ?_ htk F9 (news_sub N9 fun q hq => List.mem_cons_of_mem _ (List.mem_cons_of_mem _ (List.mem_cons_of_mem _ hq)))
      · rfl
      · intro y hy
        exact if_neg hy
end
end
section
theorem seed27 : True := by
  w_top off
  exact True.intro
section
variable {w : World} {dp un : Nat} {gd : Option (List Code)} {cn : Str} {cs : Scope} {a : Addr} {ccd : Value} {cl : List (Str × Addr)} {outer : List Env} {A₀ : Around} {base h₀ : Heap} {L : Addr} {m : Str → Option Value} {rest : List (Addr × Obj)} {s : Shared}
    {Q E : Value → Shared → Prop} {Q2 : Flow → Shared → Prop} {p : Program} {loose : List Str} {mean : ExcName → Option Value} {mg mb : Str → Option Value}
theorem chs_of : ∀ (vs : List Value) (cs : List Nat), vs.length = cs.length → (∀ (j : Nat) (v : Value), vs[j]? = some v → ∃ c u, cs[j]? = some c ∧ v = Value.str ⟨#[c]⟩ u) → Chs vs cs
  | [], [], _, _ => .nil
  | v :: vs, c :: cs, hl, h => by
    obtain ⟨c', u, hc, rfl⟩ := h 0 v rfl
    obtain rfl : c = c' := Option.some.inj hc
    exact .cons c u (chs_of vs cs (Nat.succ.inj hl) fun j v hv => h (j + 1) v hv)
section
variable {prog : Program} {w : World} {A : Around} {E : Value → Shared → Prop} {s : Shared} {h₀ : Heap} {L : Addr} {m : Str → Option Value} {news : List (Addr × Obj)}
theorem list_signs {x : List Nat} {t : Tok} {Q : Value → Shared → Prop} (hh : A.handled = none) (F : Fr h₀ L s.heap m) (N : News h₀ L s.heap news) (hx : x.length ≤ 1000)
    (h : ∀ D h' tk vs nf, Fr h₀ L h' m → News h₀ L h' ((D, W.listOf vs.toArray nf) :: news) → (∀ q ∈ news, @LT.lt Nat _ q.1 D) → @LT.lt Nat _ L D → Chs vs x → Q (.ref D) { s with heap := h', toks := tk }) :
    wpAny (model prog w) A (call (.type "list") [.str (mkS x) t]) Q E s := by
  refine call_list_str (hn := by rw [PySem.sizeLine_eq]; simp; omega) hh (mkS x) t fun h' tk acc c' hk hS hacc => ?_
  have hL : h₀.get? s.heap.objs.size = none := by
    cases e : h₀.get? s.heap.objs.size with
    | none => rfl
    | some o => exact absurd (Heap.lt_size (F.keep _ _ e)) (Nat.lt_irrefl _)
  refine h _ h' tk acc.toList c' (F.keeps hk) (fun p hp => ?_) (fun q hq => Heap.lt_size (N q hq).1) F.ns.lt (chs_of _ _ (by simpa using hacc.1) fun j v hv => ?_)
  · rcases List.mem_cons.mp hp with rfl | hp
    · exact ⟨by simpa using hS, Ne.symm (Nat.ne_of_lt F.ns.lt), hL⟩
    · exact ⟨hk _ _ (N p hp).1, (N p hp).2⟩
  · obtain ⟨c, u, hc, rfl⟩ := hacc.2 j v (by simpa using hv)
    exact ⟨c, u, by simpa using hc, rfl⟩
end
theorem mem_k1 {α : Type} {z f b t n w r c1 c2 c3 c4 c5 c6 c7 c8 : α} : ∀ q ∈ z :: f :: b :: t :: n :: w :: r :: [c8, c7, c6, c5, c4, c3, c2, c1], q ∈ f :: b :: t :: n :: w :: r :: [c8, c7, c6, c5, c4, c3, c2, c1, z] := by
  ((repeat' (first | refine List.forall_mem_cons.mpr ⟨?_, ?_⟩ | refine List.forall_mem_append.mpr ⟨?_, ?_⟩)) <;> first | ((repeat (first | exact List.mem_cons_self | refine List.mem_cons_of_mem _ ?_ | refine List.mem_append_right _ ?_)); done) | exact List.forall_mem_nil _ | (intro q hq; (repeat (first | exact hq | exact List.mem_append_left _ hq | refine List.mem_cons_of_mem _ ?_ | refine List.mem_append_right _ ?_)); done))
theorem mem_k2 {α : Type} {z b t n w r c1 c2 c3 c4 c5 c6 c7 c8 q : α} (hq : q ∈ b :: t :: n :: w :: r :: [c8, c7, c6, c5, c4, c3, c2, c1]) : q ∈ b :: t :: n :: w :: r :: [c8, c7, c6, c5, c4, c3, c2, c1, z] :=
  List.mem_append_left [z] hq
theorem mem_k3 {α : Type} {z f x dx st ds lam cc cel pb b t n w r c1 c2 c3 c4 c5 c6 c7 c8 : α} : ∀ q ∈ c7 :: pb :: ([f, dx, x, st, ds, lam, cc, cel] ++ (b :: t :: n :: w :: r :: [c8, c6, c5, c4, c3, c2, c1, z])), q ∈ [pb, x, dx] ++ (z :: ([f, st, ds, lam, cc, cel] ++ (b :: t :: n :: w :: r :: [c8, c7, c6, c5, c4, c3, c2, c1]))) := by
  ((repeat' (first | refine List.forall_mem_cons.mpr ⟨?_, ?_⟩ | refine List.forall_mem_append.mpr ⟨?_, ?_⟩)) <;> first | ((repeat (first | exact List.mem_cons_self | refine List.mem_cons_of_mem _ ?_ | refine List.mem_append_right _ ?_)); done) | exact List.forall_mem_nil _ | (intro q hq; (repeat (first | exact hq | exact List.mem_append_left _ hq | refine List.mem_cons_of_mem _ ?_ | refine List.mem_append_right _ ?_)); done))
theorem mem_k4 {α : Type} {z b t n w r c1 c2 c3 c4 c5 c6 c7 c8 : α} : ∀ q ∈ b :: t :: n :: w :: r :: [c8, c7, c6, c5, c4, c3, c2, c1, z], q = c7 ∨ q = z ∨ q ∈ b :: t :: n :: w :: r :: [c8, c6, c5, c4, c3, c2, c1] := by
  repeat' (first | refine List.forall_mem_cons.mpr ⟨?_, ?_⟩)
  all_goals first | exact .inl rfl | exact .inr (.inl rfl) | exact List.forall_mem_nil _ | (refine .inr (.inr ?_); (repeat (first | exact List.mem_cons_self | refine List.mem_cons_of_mem _ ?_ | refine List.mem_append_right _ ?_)))
theorem mem_k5 {α : Type} {b t n w r c1 c2 c3 c4 c5 c6 c7 c8 : α} : ∀ q ∈ b :: t :: n :: w :: r :: [c8, c6, c5, c4, c3, c2, c1], q ∈ b :: t :: n :: w :: r :: [c8, c7, c6, c5, c4, c3, c2, c1] := by
  ((repeat' (first | refine List.forall_mem_cons.mpr ⟨?_, ?_⟩ | refine List.forall_mem_append.mpr ⟨?_, ?_⟩)) <;> first | ((repeat (first | exact List.mem_cons_self | refine List.mem_cons_of_mem _ ?_ | refine List.mem_append_right _ ?_)); done) | exact List.forall_mem_nil _ | (intro q hq; (repeat (first | exact hq | exact List.mem_append_left _ hq | refine List.mem_cons_of_mem _ ?_ | refine List.mem_append_right _ ?_)); done))
theorem mem_k6 {α : Type} {z pb b t n w r c1 c2 c3 c4 c5 c6 c7 c8 : α} {l : List α} : ∀ q ∈ pb :: (l ++ (b :: t :: n :: w :: r :: [c8, c7, c6, c5, c4, c3, c2, c1, z])), q ∈ c7 :: pb :: (l ++ (b :: t :: n :: w :: r :: [c8, c6, c5, c4, c3, c2, c1, z])) := by
  ((repeat' (first | refine List.forall_mem_cons.mpr ⟨?_, ?_⟩ | refine List.forall_mem_append.mpr ⟨?_, ?_⟩)) <;> first | ((repeat (first | exact List.mem_cons_self | refine List.mem_cons_of_mem _ ?_ | refine List.mem_append_right _ ?_)); done) | exact List.forall_mem_nil _ | (intro q hq; (repeat (first | exact hq | exact List.mem_append_left _ hq | refine List.mem_cons_of_mem _ ?_ | refine List.mem_append_right _ ?_)); done))
theorem cell_n7 (L : Nat) : L + 1 ≠ L + 1 + 1 + 1 + 1 + 1 + 1 + 1 ∧ L + 1 + 1 ≠ L + 1 + 1 + 1 + 1 + 1 + 1 + 1 ∧ L + 1 + 1 + 1 ≠ L + 1 + 1 + 1 + 1 + 1 + 1 + 1 ∧ L + 1 + 1 + 1 + 1 ≠ L + 1 + 1 + 1 + 1 + 1 + 1 + 1 ∧ L + 1 + 1 + 1 + 1 + 1 ≠ L + 1 + 1 + 1 + 1 + 1 + 1 + 1 ∧ L + 1 + 1 + 1 + 1 + 1 + 1 ≠ L + 1 + 1 + 1 + 1 + 1 + 1 + 1 ∧ L + 1 + 1 + 1 + 1 + 1 + 1 + 1 + 1 ≠ L + 1 + 1 + 1 + 1 + 1 + 1 + 1 :=
  ⟨(fun h => absurd (Nat.add_left_cancel (n := L) (m := 1) (k := 7) h) (by decide)), (fun h => absurd (Nat.add_left_cancel (n := L) (m := 2) (k := 7) h) (by decide)), (fun h => absurd (Nat.add_left_cancel (n := L) (m := 3) (k := 7) h) (by decide)), (fun h => absurd (Nat.add_left_cancel (n := L) (m := 4) (k := 7) h) (by decide)), (fun h => absurd (Nat.add_left_cancel (n := L) (m := 5) (k := 7) h) (by decide)), (fun h => absurd (Nat.add_left_cancel (n := L) (m := 6) (k := 7) h) (by decide)), (fun h => absurd (Nat.add_left_cancel (n := L) (m := 8) (k := 7) h) (by decide))⟩
theorem off_13 {α : Type} {P : α → Prop} {b t n w r c1 c2 c3 c4 c5 c6 c7 c8 : α} (hb : P b) (ht : P t) (hn : P n) (hw : P w) (hr : P r) (h8 : P c8) (h7 : P c7) (h6 : P c6) (h5 : P c5) (h4 : P c4) (h3 : P c3) (h2 : P c2) (h1 : P c1) : ∀ q ∈ b :: t :: n :: w :: r :: [c8, c7, c6, c5, c4, c3, c2, c1], P q := by
  simp only [List.forall_mem_cons]
  exact ⟨hb, ht, hn, hw, hr, h8, h7, h6, h5, h4, h3, h2, h1, fun q hq => by cases hq⟩
theorem off_22 {α : Type} {P : α → Prop} {pb l1 l2 l3 l4 l5 l6 l7 l8 b t n w r c1 c2 c3 c4 c5 c6 c7 c8 : α} (hp : P pb) (g1 : P l1) (g2 : P l2) (g3 : P l3) (g4 : P l4) (g5 : P l5) (g6 : P l6) (g7 : P l7) (g8 : P l8) (hb : P b) (ht : P t) (hn : P n) (hw : P w) (hr : P r) (h8 : P c8) (h7 : P c7) (h6 : P c6) (h5 : P c5) (h4 : P c4) (h3 : P c3) (h2 : P c2) (h1 : P c1) : ∀ q ∈ pb :: ([l1, l2, l3, l4, l5, l6, l7, l8] ++ (b :: t :: n :: w :: r :: [c8, c7, c6, c5, c4, c3, c2, c1])), P q := by
  simp only [List.cons_append, List.nil_append, List.forall_mem_cons]
  exact ⟨hp, g1, g2, g3, g4, g5, g6, g7, g8, hb, ht, hn, hw, hr, h8, h7, h6, h5, h4, h3, h2, h1, fun q hq => by cases hq⟩
theorem st_A7 {c : Cs} {sl rl wl nl tl bl : Addr} {rs ws bs vs : List Value} {xs ns : List Int} {l : List (Str × Tok)} {ps : Array Value} {n R nr nw nn nt nb j : Nat} {t2 t3 : Tok} {Z : List (Str × Tok)} {tt : Tok}
    (hdp : dp < 370) (hun : un < 160) (B : Below A₀ base outer h₀) (F : Fr h₀ L s.heap m) (X : (hd.heap_39 w.params).In h₀) (T : Top p loose mean mg mb h₀) (hE : PassesOwn (model Challenge.rw_pg0080_01.row.prog w) (ktrTop dp un gd (Str.ofString "law") lawP.2.1 L a ccd (lawCl L) outer) (lawE L a ccd) E) (hL : @LT.lt Nat _ 121 L) (N : News h₀ L s.heap ((bl, W.listOf bs.toArray nb) :: (tl, W.listOf (txts (l.drop j ++ l.take j)).toArray nt) :: (nl, W.listOf (txts l).toArray nn) :: (wl, W.listOf ws.toArray nw) :: (rl, W.listOf rs.toArray nr) :: csL L c ps)) (ps0 : ps = #[]) (C : CodeHd base 125 121)
    (c7 : isC c.line none) (fr : LCg.Off1 rl (csL L c ps)) (fw : LCg.Off1 wl (csL L c ps)) (fn : LCg.Off1 nl (csL L c ps)) (ft : LCg.Off1 tl (csL L c ps)) (fb : LCg.Off1 bl (csL L c ps))
    (hm4 : m (Str.ofString "text") = some (.str (mkS (textL xs Z)) tt)) (htx : (textL xs Z).length < 200) (htk : 0 < s.toks)
    (h : ∀ h' tk' (e : Lx) o7 cv nf t1 ps', e.Ok → Chs cv (textL xs Z) → isC o7 (some (.ref e.x)) → (∀ q ∈ (bl, W.listOf bs.toArray nb) :: (tl, W.listOf (txts (l.drop j ++ l.take j)).toArray nt) :: (nl, W.listOf (txts l).toArray nn) :: (wl, W.listOf ws.toArray nw) :: (rl, W.listOf rs.toArray nr) :: csL L { c with line := o7 } ps', @LT.lt Nat _ q.1 e.lf) → 0 < tk' → Fr h₀ L h' m → News h₀ L h' ((e.pb, W.listOf ([] : List Value).toArray 0) :: (lexL e 1 t1 cv nf ++ ((bl, W.listOf bs.toArray nb) :: (tl, W.listOf (txts (l.drop j ++ l.take j)).toArray nt) :: (nl, W.listOf (txts l).toArray nn) :: (wl, W.listOf ws.toArray nw) :: (rl, W.listOf rs.toArray nr) :: csL L { c with line := o7 } ps'))) →
      wpAny (model Challenge.rw_pg0080_01.row.prog w) (ktrTop dp un gd (Str.ofString "law") lawP.2.1 L a ccd (lawCl L) outer) (execs (lawP.1.drop 8) (lawE L a ccd)) Q2 E { s with heap := h', toks := tk' }) :
    wpAny (model Challenge.rw_pg0080_01.row.prog w) (ktrTop dp un gd (Str.ofString "law") lawP.2.1 L a ccd (lawCl L) outer) (execs (lawP.1.drop 7) (lawE L a ccd)) Q2 E s := by
  obtain ⟨o1, o2, o3, o4', o5, o6, o7, o8⟩ := c
  dsimp only [csL, isC, lawP, List.cons_append, List.nil_append, List.drop] at *
  subst ps0
  refine wpAny_execs_cons ?_
  refine wpAny_tok1 (n := 1) htk ?_
  iterate 15 (first | (k_unfold; (try dsimp only)) | (k_end; wrow_close) | walk1 | (dsimp only; walk1) | (leave1; walk_say "STEP leave1"; try dsimp only) | fail "no step")
  refine list_signs (x := textL xs Z) rfl (by k_asm) (by k_asm) (by omega) ?_
  intro lf h1 tk1 cv nf F1 N1 lt1 ltL hch
  iterate 2 (first | (k_unfold; (try dsimp only)) | (k_end; wrow_close) | walk1 | (dsimp only; walk1) | (leave1; walk_say "STEP leave1"; try dsimp only) | fail "no step")
  have hlt : @LT.lt Nat _ 121 lf := by omega
  obtain ⟨R9, hR9⟩ : ∃ R9 : List (Addr × Obj), R9 = (bl, W.listOf bs.toArray nb) :: (tl, W.listOf (txts (l.drop j ++ l.take j)).toArray nt) :: (nl, W.listOf (txts l).toArray nn) :: (wl, W.listOf ws.toArray nw) :: (rl, W.listOf rs.toArray nr) :: [(L + 1 + 1 + 1 + 1 + 1 + 1 + 1 + 1, o8), (L + 1 + 1 + 1 + 1 + 1 + 1 + 1, o7), (L + 1 + 1 + 1 + 1 + 1 + 1, o6), (L + 1 + 1 + 1 + 1 + 1, o5), (L + 1 + 1 + 1 + 1, o4'), (L + 1 + 1 + 1, o3), (L + 1 + 1, o2), (L + 1, o1)] := ⟨_, rfl⟩
  have N2 : News h₀ L h1 ((121, tabObj #[]) :: (lf, W.listOf cv.toArray nf) :: R9) := news_sub N1 (by
    rw [hR9]
    exact mem_k1)
  have hR121 : ∀ p ∈ R9, p.1 ≠ 121 := by
    rw [hR9]
    exact off_13 (P := fun q : Addr × Obj => q.1 ≠ 121) (Ne.symm (off1_mem fb (121, tabObj #[]) (by k_mem))) (Ne.symm (off1_mem ft (121, tabObj #[]) (by k_mem))) (Ne.symm (off1_mem fn (121, tabObj #[]) (by k_mem))) (Ne.symm (off1_mem fw (121, tabObj #[]) (by k_mem))) (Ne.symm (off1_mem fr (121, tabObj #[]) (by k_mem))) (Ne.symm (Nat.ne_of_lt (Nat.lt_of_lt_of_le hL (Nat.le_add_right L 8)))) (Ne.symm (Nat.ne_of_lt (Nat.lt_of_lt_of_le hL (Nat.le_add_right L 7)))) (Ne.symm (Nat.ne_of_lt (Nat.lt_of_lt_of_le hL (Nat.le_add_right L 6)))) (Ne.symm (Nat.ne_of_lt (Nat.lt_of_lt_of_le hL (Nat.le_add_right L 5)))) (Ne.symm (Nat.ne_of_lt (Nat.lt_of_lt_of_le hL (Nat.le_add_right L 4)))) (Ne.symm (Nat.ne_of_lt (Nat.lt_of_lt_of_le hL (Nat.le_add_right L 3)))) (Ne.symm (Nat.ne_of_lt (Nat.lt_of_lt_of_le hL (Nat.le_add_right L 2)))) (Ne.symm (Nat.ne_of_lt (Nat.lt_of_lt_of_le hL (Nat.le_add_right L 1))))
  refine wpAny_call (c_stream (un := un) (dp := dp) (Nat.lt_of_lt_of_le hdp (by decide)) (Nat.lt_of_lt_of_le hun (by decide)) (by k_asm) F1 (by k_asm) N2 (by k_asm) (by rfl) C hL hlt hR121 ?_)
  intro e h2 tk2 ps2 elf est F2 N3
  iterate 2 (first | (k_unfold; (try dsimp only)) | (k_end; wrow_close) | walk1 | (dsimp only; walk1) | (leave1; walk_say "STEP leave1"; try dsimp only) | fail "no step")
  refine c_new (un := un) (dp := dp) (Nat.lt_of_lt_of_le hdp (by decide)) (Nat.lt_of_lt_of_le hun (by decide)) (by k_asm) F2 (by k_asm) N3 (by k_asm) (by rfl) ?_
  intro H k t1 ws9 x dx pb h3 tk3 ltd lx lp F3 N4
  obtain ⟨x', dx', st, ds, pb', pb2, lf', lam, cc, cel, H', H2, k', k2, l2', t2', ws', ws2, qual, pm, ctv, oc, ol, vs', tq⟩ := e
  dsimp only at elf
  subst elf
  obtain ⟨q1, q2, q3, q4⟩ := est
  dsimp only at q1 q2 q3 q4
  obtain ⟨OT, hOT⟩ : ∃ OT : List (Addr × Obj), OT = (pb, W.listOf ([] : List Value).toArray 0) :: (lexL ⟨x, dx, st, ds, pb, pb2, lf', lam, cc, cel, H, H2, k, k2, l2', t2', ws9, ws2, qual, pm, ctv, oc, ol, vs', tq⟩ 1 t1 cv nf ++ ((bl, W.listOf bs.toArray nb) :: (tl, W.listOf (txts (l.drop j ++ l.take j)).toArray nt) :: (nl, W.listOf (txts l).toArray nn) :: (wl, W.listOf ws.toArray nw) :: (rl, W.listOf rs.toArray nr) :: [(L + 1 + 1 + 1 + 1 + 1 + 1 + 1 + 1, o8), (L + 1 + 1 + 1 + 1 + 1 + 1, o6), (L + 1 + 1 + 1 + 1 + 1, o5), (L + 1 + 1 + 1 + 1, o4'), (L + 1 + 1 + 1, o3), (L + 1 + 1, o2), (L + 1, o1), (121, tabObj ps2)])) := ⟨_, rfl⟩
  have N5 : News h₀ L h3 ((L + 1 + 1 + 1 + 1 + 1 + 1 + 1, o7) :: OT) := news_sub N4 (by
    rw [hOT, hR9]
    exact mem_k3)
  have low : ∀ q ∈ R9, @LT.lt Nat _ q.1 lf' := by
    intro q hq
    rw [hR9] at hq
    exact lt1 q (mem_k2 hq)
  have hdl : @LT.lt Nat _ lam dx := ltd (lam, _) (List.mem_cons_of_mem _ (List.mem_append_left _ (List.mem_cons_of_mem _ (List.mem_cons_of_mem _ (List.mem_cons_of_mem _ List.mem_cons_self)))))
  have h7 : @LT.lt Nat _ (L + 1 + 1 + 1 + 1 + 1 + 1 + 1) lf' := low (L + 1 + 1 + 1 + 1 + 1 + 1 + 1, o7) (by rw [hR9]; k_mem)
  have hne : ∀ p ∈ OT, p.1 ≠ L + 1 + 1 + 1 + 1 + 1 + 1 + 1 := by
    rw [hOT]
    obtain ⟨n1, n2, n3, n4, n5, n6, n8⟩ := cell_n7 L
    have a2 := Nat.lt_trans h7 q4.1
    have a3 := Nat.lt_trans a2 q4.2.1
    have a4 := Nat.lt_trans a3 q4.2.2.1
    have a5 := Nat.lt_trans a4 q4.2.2.2.1
    have a6 := Nat.lt_trans a5 q4.2.2.2.2
    have a7 := Nat.lt_trans a6 hdl
    have a8 := Nat.lt_trans a7 lx
    have a9 := Nat.lt_trans a8 lp
    exact off_22 (P := fun q : Addr × Obj => q.1 ≠ L + 1 + 1 + 1 + 1 + 1 + 1 + 1) (Ne.symm (Nat.ne_of_lt a9)) (Ne.symm (Nat.ne_of_lt h7)) (Ne.symm (Nat.ne_of_lt a7)) (Ne.symm (Nat.ne_of_lt a8)) (Ne.symm (Nat.ne_of_lt a4)) (Ne.symm (Nat.ne_of_lt a3)) (Ne.symm (Nat.ne_of_lt a6)) (Ne.symm (Nat.ne_of_lt a5)) (Ne.symm (Nat.ne_of_lt a2)) (Ne.symm (off1_mem fb (L + 1 + 1 + 1 + 1 + 1 + 1 + 1, o7) (by k_mem))) (Ne.symm (off1_mem ft (L + 1 + 1 + 1 + 1 + 1 + 1 + 1, o7) (by k_mem))) (Ne.symm (off1_mem fn (L + 1 + 1 + 1 + 1 + 1 + 1 + 1, o7) (by k_mem))) (Ne.symm (off1_mem fw (L + 1 + 1 + 1 + 1 + 1 + 1 + 1, o7) (by k_mem))) (Ne.symm (off1_mem fr (L + 1 + 1 + 1 + 1 + 1 + 1 + 1, o7) (by k_mem))) n8 n6 n5 n4 n3 n2 n1 (Nat.ne_of_lt (Nat.lt_of_lt_of_le hL (Nat.le_add_right L 7)))
  k_dflt (refine storeX_C F3 N5 (by rfl) (UpdF.head hne) c7 ?_ (by rfl) (by rfl))
  intro h4 o7' F5 N6 d7
  intro htk
  refine h h4 _ ⟨x, dx, st, ds, pb, pb2, lf', lam, cc, cel, H, H2, k, k2, l2', t2', ws9, ws2, qual, pm, ctv, oc, ol, vs', tq⟩ o7' cv nf t1 ps2 ⟨q1, q2, q3, ?_⟩ hch d7 ?_ htk F5 (news_sub N6 ?_)
  · dsimp only
    exact ⟨q4.1, q4.2.1, q4.2.2.1, q4.2.2.2.1, q4.2.2.2.2, hdl, lx, lp⟩
  · intro q hq
    rcases mem_k4 q hq with rfl | rfl | hq
    · exact h7
    · exact hlt
    · exact low q (by rw [hR9]; exact mem_k5 q hq)
  · rw [hOT]
    exact mem_k6 (l := lexL ⟨x, dx, st, ds, pb, pb2, lf', lam, cc, cel, H, H2, k, k2, l2', t2', ws9, ws2, qual, pm, ctv, oc, ol, vs', tq⟩ 1 t1 cv nf)
end
end
section
theorem seed28 : True := by
  w_top off
  exact True.intro
section
variable {w : World} {dp un : Nat} {gd : Option (List Code)} {cn : Str} {cs : Scope} {a : Addr} {ccd : Value} {cl : List (Str × Addr)} {outer : List Env} {A₀ : Around} {base h₀ : Heap} {L : Addr} {m : Str → Option Value} {rest : List (Addr × Obj)} {s : Shared}
    {Q E : Value → Shared → Prop} {Q2 : Flow → Shared → Prop} {p : Program} {loose : List Str} {mean : ExcName → Option Value} {mg mb : Str → Option Value}
section
variable {prog : Program} {w : World} {A : Around} {E : Value → Shared → Prop} {s : Shared}
theorem txt_canLay : ∀ ys : List Str, (∀ y ∈ ys, PyData.strOk y = true) → PyData.canLayAll0 (ys.map PyData.str) = true
  | [], _ => rfl
  | y :: r, h => by simp [PyData.canLayAll0, PyData.canLay0, h y List.mem_cons_self, txt_canLay r fun z hz => h z (List.mem_cons_of_mem _ hz)]
theorem txt_depth : ∀ ys : List Str, PyData.depthAll (ys.map PyData.str) = 0
  | [] => rfl
  | _ :: r => by simp [PyData.depthAll, PyData.depth, txt_depth r]
theorem txt_shaped (ys : List Str) (h : ∀ y ∈ ys, PyData.strOk y = true) : SeqAt.shaped (.list (ys.map PyData.str)) = true := by
  simp [SeqAt.shaped, PyData.canLay0, PyData.depth, txt_canLay ys h, txt_depth]
theorem txt_carried : ∀ {vs : List Value} {ys : List Str}, StrsAre vs ys → CarriedAll vs (ys.map PyData.str)
  | _, _, .nil => .nil
  | _, _, .cons _ t r => .cons (.str _ t) (txt_carried r)
theorem ne_strs {a b : Addr} {xs ys : List Value} {zs : List Str} {Q : Value → Shared → Prop} (ha : s.heap.IsList a xs.toArray) (hb : s.heap.IsList b ys.toArray) (hi : StrsAre xs zs) (hj : StrsAre ys zs) (hok : ∀ y ∈ zs, PyData.strOk y = true) (hu : A.units + 64 < cLine) (h : Q (.bool false) s) :
    wpAny (model prog w) A (compareOp .NotEq (.ref a) (.ref b)) Q E s :=
  ne_dataH_same (reads_newData ha (txt_carried hi)) (reads_newData hb (txt_carried hj)) (txt_shaped _ hok) (txt_shaped _ hok) hu
    (SeqAt.noMix_of_shape (.list .str) rfl _ _ (list_map_has fun _ => rfl) (list_map_has fun _ => rfl)) (by rw [PySem.Spec.same_self]; exact h)
end
theorem blank_in (x : Int) : signIn (Str.ofString "\n\t\r ") (blankOf x) = true := by
  obtain ⟨j, e, lj⟩ := fmod_bnd (x.fdiv 24) 4 (by decide)
  unfold blankOf
  rw [show (x.fdiv 24).fmod 4 = (j : Int) from e, Int.toNat_natCast]
  have : j = 0 ∨ j = 1 ∨ j = 2 ∨ j = 3 := by omega
  rcases this with rfl | rfl | rfl | rfl <;> decide +kernel
theorem nls_append (a b : List Nat) : nls (a ++ b) = nls a + nls b := by
  induction a with
  | nil => simp [nls]
  | cons c a ih => simp only [List.cons_append, nls, ih]; omega
theorem nls_enc (w : List Nat) : nls (encW w) = nls w := by
  induction w with
  | nil => rfl
  | cons c w ih =>
    rw [encW_cons, nls_append, ih]
    unfold encC
    split
    · simp only [nls, show nlOf 92 = 0 from rfl]; omega
    · simp only [nls]; omega
theorem nls_pieceA (x : Int) : nls (pieceA x) = nlOf (blankOf x) + nls (wordOf x) := by
  unfold pieceA
  rw [nls, nls_append, nls, nls_enc]
  simp only [nls, show nlOf 34 = 0 from rfl]
  omega
end
end
section
theorem seed29 : True := by
  w_top off
  exact True.intro
section
variable {w : World} {dp un : Nat} {gd : Option (List Code)} {cn : Str} {cs : Scope} {a : Addr} {ccd : Value} {cl : List (Str × Addr)} {outer : List Env} {A₀ : Around} {base h₀ : Heap} {L : Addr} {m : Str → Option Value} {rest : List (Addr × Obj)} {s : Shared}
    {Q E : Value → Shared → Prop} {Q2 : Flow → Shared → Prop} {p : Program} {loose : List Str} {mean : ExcName → Option Value} {mg mb : Str → Option Value}
def flatA (xs : List Int) : List Nat := (xs.map pieceA).flatten
def flatB (Z : List (Str × Tok)) : List Nat := (Z.map pieceB).flatten
theorem flatA_drop {xs : List Int} {i : Nat} {x : Int} (h : xs[i]? = some x) : flatA (xs.drop i) = blankOf x :: 34 :: (encW (wordOf x) ++ 34 :: flatA (xs.drop (i + 1))) := by
  have hi : i < xs.length := (List.getElem?_eq_some_iff.mp h).1
  have hx : xs[i] = x := (List.getElem?_eq_some_iff.mp h).2
  rw [List.drop_eq_getElem_cons hi, hx]
  simp [flatA, pieceA]
theorem flatA_take {xs : List Int} {i : Nat} {x : Int} (h : xs[i]? = some x) : flatA (xs.take (i + 1)) = flatA (xs.take i) ++ pieceA x := by
  unfold flatA
  rw [List.take_add_one, h, List.map_append, List.flatten_append]
  simp
theorem word_ok (x : Int) : PyData.strOk (mkS (wordOf x)) = true := by
  have key : ∀ j : Nat, signs8.getD j 0 < 1114112 := by
    intro j
    by_cases hj : j < 8
    · have : j = 0 ∨ j = 1 ∨ j = 2 ∨ j = 3 ∨ j = 4 ∨ j = 5 ∨ j = 6 ∨ j = 7 := by omega
      rcases this with rfl | rfl | rfl | rfl | rfl | rfl | rfl | rfl <;> decide
    · have : signs8.getD j 0 = 0 := by
        simp [List.getD, signs8, List.getElem?_eq_none (show [97, 98, 34, 92, 32, 10, 35, 9].length ≤ j by simp; omega)]
      omega
  unfold PyData.strOk wordOf
  simp only [List.all_toArray, List.all_eq_true]
  intro c hc
  rw [(List.mem_replicate.mp hc).2]
  exact decide_eq_true (key _)
theorem chs_len {vs : List Value} {cs : List Nat} (h : Chs vs cs) : vs.length = cs.length := by
  induction h with
  | nil => rfl
  | cons _ _ _ ih => simp [ih]
theorem st_A8 {c : Cs} {sl rl wl nl tl bl : Addr} {rs ws bs vs : List Value} {xs ns : List Int} {l : List (Str × Tok)} {ps : Array Value} {n R nr nw nn nt nb j : Nat} {t2 t3 : Tok} {Z : List (Str × Tok)} {e : Lx} {cv : List Value} {nf : Nat} {t1 : Tok}
    (hdp : dp < 370) (hun : un < 160) (B : Below A₀ base outer h₀) (F : Fr h₀ L s.heap m) (X : (hd.heap_39 w.params).In h₀) (T : Top p loose mean mg mb h₀) (hE : PassesOwn (model Challenge.rw_pg0080_01.row.prog w) (ktrTop dp un gd (Str.ofString "law") lawP.2.1 L a ccd (lawCl L) outer) (lawE L a ccd) E) (hL : @LT.lt Nat _ 121 L) (C : CodeHd base 125 121) (N : News h₀ L s.heap ((e.pb, W.listOf ([] : List Value).toArray 0) :: (lexL e 1 t1 cv nf ++ ((bl, W.listOf bs.toArray nb) :: (tl, W.listOf (txts (l.drop j ++ l.take j)).toArray nt) :: (nl, W.listOf (txts l).toArray nn) :: (wl, W.listOf ws.toArray nw) :: (rl, W.listOf rs.toArray nr) :: csL L c ps))))
    (ok : e.Ok) (hch : Chs cv (textL xs Z)) (htx : (textL xs Z).length < 200) (low : ∀ q ∈ (bl, W.listOf bs.toArray nb) :: (tl, W.listOf (txts (l.drop j ++ l.take j)).toArray nt) :: (nl, W.listOf (txts l).toArray nn) :: (wl, W.listOf ws.toArray nw) :: (rl, W.listOf rs.toArray nr) :: csL L c ps, @LT.lt Nat _ q.1 e.lf)
    (c2 : isC c.count (some (.int (n : Int) t2))) (c5 : isC c.words (some (.ref wl))) (c7 : isC c.line (some (.ref e.x))) (hxl : xs.length = n) (hws : StrsAre ws (xs.map fun x => mkS (wordOf x)))
    (hn3 : 3 ≤ n) (hn5 : n ≤ 5) (htk : 0 < s.toks)
    (h : ∀ h' tk' cv' nf' t1', Chs cv' (flatB Z) → 0 < tk' → Fr h₀ L h' m → News h₀ L h' ((e.pb, W.listOf ([] : List Value).toArray 0) :: (lexL e (1 + nls (flatA xs)) t1' cv' nf' ++ ((bl, W.listOf bs.toArray nb) :: (tl, W.listOf (txts (l.drop j ++ l.take j)).toArray nt) :: (nl, W.listOf (txts l).toArray nn) :: (wl, W.listOf ws.toArray nw) :: (rl, W.listOf rs.toArray nr) :: csL L c ps))) →
      wpAny (model Challenge.rw_pg0080_01.row.prog w) (ktrTop dp un gd (Str.ofString "law") lawP.2.1 L a ccd (lawCl L) outer) (execs (lawP.1.drop 9) (lawE L a ccd)) Q2 E { s with heap := h', toks := tk' }) :
    wpAny (model Challenge.rw_pg0080_01.row.prog w) (ktrTop dp un gd (Str.ofString "law") lawP.2.1 L a ccd (lawCl L) outer) (execs (lawP.1.drop 8) (lawE L a ccd)) Q2 E s := by
  obtain ⟨o1, o2, o3, o4', o5, o6, o7, o8⟩ := c
  have ord := ok.ord
  dsimp only [csL, isC, lawP, List.cons_append, List.nil_append, List.drop] at *
  refine wpAny_execs_cons ?_
  refine wpAny_tok1 (n := 1) htk ?_
  iterate 10 (first | (k_unfold; (try dsimp only)) | (k_end; wrow_close) | walk1 | (dsimp only; walk1) | (leave1; walk_say "STEP leave1"; try dsimp only) | fail "no step")
  k_dflt (refine LCg.CompSrc.range (n := n) (by rfl) (by k_asm) (by k_asm) (by assumption) (rng_small _ (by omega)) (rng_size _) (by rw [PySem.sizeLine_eq]; omega) ?_; intro g9)
  obtain ⟨R9, hR9⟩ : ∃ R9 : List (Addr × Obj), R9 = (bl, W.listOf bs.toArray nb) :: (tl, W.listOf (txts (l.drop j ++ l.take j)).toArray nt) :: (nl, W.listOf (txts l).toArray nn) :: (wl, W.listOf ws.toArray nw) :: (rl, W.listOf rs.toArray nr) :: csL L ⟨o1, o2, o3, o4', o5, o6, o7, o8⟩ ps := ⟨_, rfl⟩
  refine comp_J (fun i ys nw' => ∃ cv nf t1, nw' = (e.pb, W.listOf ([] : List Value).toArray 0) :: (lexL e (1 + nls (flatA (xs.take i))) t1 cv nf ++ R9) ∧ Chs cv (flatA (xs.drop i) ++ flatB Z) ∧ cv.length ≤ 200 ∧ StrsAre ys ((xs.take i).map fun x => mkS (wordOf x))) ⟨cv, nf, t1, ?_, hch, ?_, .nil⟩ ?_ ?_
  · rw [hR9]; rfl
  · rw [chs_len hch]; omega
  · intro i ys news₁ v I oI C' oC D m₂ h tk E' hi hJ hv hC hx F N off ne
    refine wp_name fun Q9 hQ9 => ?_
    obtain ⟨cv, nf, t1, rfl, hch, hcl, hys⟩ := hJ
    obtain ⟨ne1, ne2, ne3⟩ := ne
    have hi' : i < xs.length := by omega
    obtain ⟨x, hxi⟩ : ∃ x, xs[i]? = some x := ⟨_, List.getElem?_eq_getElem hi'⟩
    have N8 := news_sub N (mem_s3 (l := lexL e (1 + nls (flatA (xs.take i))) t1 cv nf))
    have o3 := off.mem
    have hRlf : ∀ q ∈ R9, @LT.lt Nat _ q.1 e.lf := by
      intro q hq
      rw [hR9] at hq
      exact low q hq
    have e8 : ∀ p ∈ (I, oI) :: (C', oC) :: (D, LCg.lst ys) :: R9, p.1 ≠ e.lf := by
      have z := o3 (e.lf, W.listOf cv.toArray nf) (by simp [lexL])
      intro q hq
      simp only [List.mem_cons] at hq
      rcases hq with rfl | rfl | rfl | hq
      · exact Ne.symm z.1
      · exact Ne.symm z.2.1
      · exact Ne.symm z.2.2
      · exact Nat.ne_of_lt (hRlf q hq)
    have g8 : ∀ p ∈ (I, oI) :: (C', oC) :: (D, LCg.lst ys) :: R9, p.1 ≠ e.dx := by
      have z := o3 (e.dx, dictOf (lexD e.H e.k (1 + nls (flatA (xs.take i))) t1 (.ref e.st) e.ws e.pb) 4) (by simp [lexL])
      intro q hq
      simp only [List.mem_cons] at hq
      rcases hq with rfl | rfl | rfl | hq
      · exact Ne.symm z.1
      · exact Ne.symm z.2.1
      · exact Ne.symm z.2.2
      · refine neN ?_
        have := hRlf q hq
        omega
    have N0 := N
    rw [hR9] at N0
    dsimp only [csL, isC, lexL, lamP, chv, List.cons_append, List.nil_append] at N0
    rw [flatA_drop hxi, List.cons_append, List.cons_append, List.append_assoc, List.cons_append] at hch
    clear N
    iterate 5 (first | (k_unfold; (try dsimp only)) | (k_end; wrow_close) | walk1 | (dsimp only; walk1) | (leave1; walk_say "STEP leave1"; try dsimp only) | fail "no step")
    have hbl := blank_in x
    have hwl := wordOf_len x
    refine wpAny_call (c_get_q (un := un) (dp := dp) ok (Nat.lt_of_lt_of_le hdp (by decide)) (Nat.lt_of_lt_of_le hun (by decide)) (by k_asm) (by k_asm) (by k_asm) N8 (by k_asm) (by rfl) C hch hbl (by omega) (by omega) e8 g8 ?_)
    intro h' tk' tt2 t1' rv nf' hrv F' N'
    have hln : 1 + nls (flatA (xs.take i)) + nlOf (blankOf x) + nls (wordOf x) = 1 + nls (flatA (xs.take (i + 1))) := by
      rw [flatA_take hxi, nls_append, nls_pieceA]
      omega
    rw [hln] at N'
    have hrl : rv.length ≤ 200 := by
      have h1 := chs_len hch
      have h2 := chs_len hrv
      simp only [List.length_cons, List.length_append] at h1 h2
      omega
    refine hQ9 _ _ ?_
    refine LCg.CompEnd.intro F' N' ((e.pb, W.listOf ([] : List Value).toArray 0) :: (lexL e (1 + nls (flatA (xs.take (i + 1)))) t1' rv nf' ++ R9)) mem_b3 (off3_keys off rfl) trivial ⟨rv, nf', t1', rfl, hrv, hrl, ?_⟩
    rw [List.take_add_one, hxi, List.map_append]
    exact strs_snoc hys
  · intro ys news₁ hJ
    obtain ⟨cv, nf, t1, rfl, hch, hcl, hys⟩ := hJ
    unfold LCg.FinE
    intro SD h' tk' F' N' o1'
    have N0 := N'
    rw [hR9] at N0
    dsimp only [csL, isC, lexL, lamP, chv, List.cons_append, List.nil_append] at N0 ⊢
    iterate 1 (first | (k_unfold; (try dsimp only)) | (k_end; wrow_close) | walk1 | (dsimp only; walk1) | (leave1; walk_say "STEP leave1"; try dsimp only) | fail "no step")
    rw [show n = xs.length from hxl.symm, List.take_length] at *
    have hok : ∀ y ∈ xs.map fun x => mkS (wordOf x), PyData.strOk y = true := by
      intro y hy
      obtain ⟨x, _, rfl⟩ := List.mem_map.mp hy
      exact word_ok x
    refine ne_strs (News.isList N0 (by k_mem)) (News.isList N0 (by k_mem)) hys hws hok (by show un + 64 < 9900; omega) ?_
    iterate 3 (first | (k_unfold; (try dsimp only)) | (k_end; wrow_close) | walk1 | (dsimp only; walk1) | (leave1; walk_say "STEP leave1"; try dsimp only) | fail "no step")
    intro htk
    rw [List.drop_length] at hch
    exact h _ _ cv nf t1 hch htk F' (fun q hq => by
      refine N' q (List.mem_cons_of_mem _ ?_)
      rw [hR9]
      exact hq)
end
end
section
theorem seed30 : True := by
  w_top off
  exact True.intro
section
variable {w : World} {dp un : Nat} {gd : Option (List Code)} {cn : Str} {cs : Scope} {a : Addr} {ccd : Value} {cl : List (Str × Addr)} {outer : List Env} {A₀ : Around} {base h₀ : Heap} {L : Addr} {m : Str → Option Value} {rest : List (Addr × Obj)} {s : Shared}
    {Q E : Value → Shared → Prop} {Q2 : Flow → Shared → Prop} {p : Program} {loose : List Str} {mean : ExcName → Option Value} {mg mb : Str → Option Value}
def onesL : Nat → List Nat
  | 0 => [0]
  | i + 1 => onesL i ++ (onesL i).map (· + 1)
theorem onesL_len : ∀ i, (onesL i).length = 2 ^ i
  | 0 => rfl
  | i + 1 => by rw [onesL, List.length_append, List.length_map, onesL_len i, Nat.pow_succ]; omega
theorem castL_app (a b : List Nat) : castL (a ++ b) = castL a ++ castL b := List.map_append
theorem ints_app {vs us : List Value} {xs ys : List Int} (h : IntsAre vs xs) (h2 : IntsAre us ys) : IntsAre (vs ++ us) (xs ++ ys) := by
  induction h with
  | nil => exact h2
  | cons z u _ ih => exact .cons _ _ ih
theorem off1_all {d : Nat} : ∀ {l : List (Addr × Obj)}, AllLt d l → LCg.Off1 d l
  | [], _ => trivial
  | _ :: _, x => ⟨Nat.ne_of_lt x.1, off1_all x.2⟩
theorem st_A9 {o8 : Obj} {R : Nat} {t3 : Tok}
    (hdp : dp < 370) (hun : un < 160) (B : Below A₀ base outer h₀) (F : Fr h₀ L s.heap m) (X : (hd.heap_39 w.params).In h₀) (T : Top p loose mean mg mb h₀) (hE : PassesOwn (model Challenge.rw_pg0080_01.row.prog w) (ktrTop dp un gd (Str.ofString "law") lawP.2.1 L a ccd (lawCl L) outer) (lawE L a ccd) E) (hL : @LT.lt Nat _ 121 L) (N : News h₀ L s.heap ((L + 1 + 1 + 1 + 1 + 1 + 1 + 1 + 1, o8) :: rest)) (hR : ∀ p ∈ rest, p.1 ≠ L + 1 + 1 + 1 + 1 + 1 + 1 + 1 + 1)
    (c8 : isC o8 none) (hm : m (Str.ofString "rounds") = some (.int (R : Int) t3)) (hR4 : R ≤ 4) (htk : 0 < s.toks)
    (h : ∀ m' h' tk' o8' ol os no, IntsAre os (castL (onesL R)) → isC o8' (some (.ref ol)) → LCg.Off1 ol ((L + 1 + 1 + 1 + 1 + 1 + 1 + 1 + 1, o8') :: rest) → (∀ y, y ≠ Str.ofString "turn" → m' y = m y) → 0 < tk' → Fr h₀ L h' m' → News h₀ L h' ((ol, W.listOf os.toArray no) :: (L + 1 + 1 + 1 + 1 + 1 + 1 + 1 + 1, o8') :: rest) →
      wpAny (model Challenge.rw_pg0080_01.row.prog w) (ktrTop dp un gd (Str.ofString "law") lawP.2.1 L a ccd (lawCl L) outer) (execs (lawP.1.drop 11) (lawE L a ccd)) Q2 E { s with heap := h', toks := tk' }) :
    wpAny (model Challenge.rw_pg0080_01.row.prog w) (ktrTop dp un gd (Str.ofString "law") lawP.2.1 L a ccd (lawCl L) outer) (execs (lawP.1.drop 9) (lawE L a ccd)) Q2 E s := by
  dsimp only [isC, lawP, List.drop] at *
  refine wpAny_execs_cons ?_
  iterate 7 (first | (k_unfold; (try dsimp only)) | (k_end; wrow_close) | walk1 | (dsimp only; walk1) | (leave1; walk_say "STEP leave1"; try dsimp only) | fail "no step")
  rename (@LT.lt Nat _ _ _ ∧ _) => l1
  refine wpAny_execs_cons ?_
  refine wpAny_tok1 (n := 1) (Nat.succ_pos _) ?_
  refine for_it ?_ (hE := hE)
  iterate 7 (first | (k_unfold; (try dsimp only)) | (k_end; wrow_close) | walk1 | (dsimp only; walk1) | (leave1; walk_say "STEP leave1"; try dsimp only) | fail "no step")
  refine loop_range (n := R) (fun i m₁ nw => (∀ y, y ≠ Str.ofString "turn" → m₁ y = m y) ∧ ∃ (ol : Addr) (os : List Value) (no : Nat) (o8' : Obj), nw = (ol, W.listOf os.toArray no) :: (L + 1 + 1 + 1 + 1 + 1 + 1 + 1 + 1, o8') :: rest ∧ IntsAre os (castL (onesL i)) ∧ o8'.data = .cell (some (.ref ol)) ∧ LCg.Off1 ol ((L + 1 + 1 + 1 + 1 + 1 + 1 + 1 + 1, o8') :: rest))
    (by rfl) (by assumption) rfl (by omega) (by k_asm) (by k_asm) ⟨fun _ _ => rfl, _, _, _, _, rfl, .cons _ _ .nil, by assumption, ⟨Nat.ne_of_lt l1.1, off1_all l1.2⟩⟩ ?_ ?_
  · intro i t I m₁ nw oI h tk hi hJ F N off
    refine wp_name fun Q9 hQ9 => ?_
    obtain ⟨hmm, ol, os, no, o8', rfl, hos, d8, oo⟩ := hJ
    have hlen := onesL_len i
    have hpw : 2 ^ i ≤ 8 := by
      have : 2 ^ i ≤ 2 ^ 3 := Nat.pow_le_pow_right (by omega) (by omega)
      omega
    have hol := ints_len hos
    rw [List.length_map] at hol
    refine wpAny_execs_cons ?_
    iterate 3 (first | (k_unfold; (try dsimp only)) | (k_end; wrow_close) | walk1 | (dsimp only; walk1) | (leave1; walk_say "STEP leave1"; try dsimp only) | fail "no step")
    k_dflt (refine LCg.ListComp_U (F₀ := by k_asm) (by with_unfolding_all rfl) (by decide) (by rfl) (by decide) (by rfl) ?_)
    iterate 1 (first | (k_unfold; (try dsimp only)) | (k_end; wrow_close) | walk1 | (dsimp only; walk1) | (leave1; walk_say "STEP leave1"; try dsimp only) | fail "no step")
    k_dflt (refine LCg.CompSrc.ledger (by rfl) (by k_asm) (by k_asm) (by k_mem) (by rw [PySem.sizeLine_eq, List.size_toArray]; omega) ?_; intro g9)
    refine comp_J (fun q ys nw' => nw' = (I, oI) :: (ol, W.listOf os.toArray no) :: (L + 1 + 1 + 1 + 1 + 1 + 1 + 1 + 1, o8') :: rest ∧ IntsAre ys (castL (((onesL i).take q).map (· + 1)))) ⟨rfl, .nil⟩ ?_ ?_
    · intro q ys news₁ v I2 oI2 C oC D m₂ h tk E' hi2 hJ hv hC hx F N off ne
      obtain ⟨rfl, hys⟩ := hJ
      have hq : q < (onesL i).length := by rw [List.size_toArray] at hi2; omega
      obtain ⟨t0, ht0⟩ := ints_at hos (j := q) (by simpa using hq)
      rw [getD_cast] at ht0
      obtain ⟨k0, hk0⟩ : ∃ k0, (onesL i).getD q 0 = k0 := ⟨_, rfl⟩
      rw [hk0] at ht0
      obtain rfl : v = .int (k0 : Int) t0 := by
        rw [List.getElem?_toArray, ht0] at hv
        exact (Option.some.inj hv).symm
      have hki : (onesL i)[q]? = some k0 := by
        rw [← hk0]
        simp [List.getD, List.getElem?_eq_getElem hq]
      obtain ⟨ne1, ne2, ne3⟩ := ne
      iterate 4 (first | (k_unfold; (try dsimp only)) | (k_end; wrow_close) | walk1 | (dsimp only; walk1) | (leave1; walk_say "STEP leave1"; try dsimp only) | fail "no step")
      refine LCg.CompEnd.intro F N _ (fun q hq => hq) off (.inr ⟨_, by k_mem, rfl, _, rfl⟩) ⟨rfl, ?_⟩
      rw [List.take_add_one, hki, List.map_append, castL_app]
      exact ints_snoc hys
    · intro ys news₁ hJ
      obtain ⟨rfl, hys⟩ := hJ
      unfold LCg.FinE
      intro SD h' tk' F' N' o1'
      dsimp only
      rw [show os.toArray.size = (onesL i).length by rw [List.size_toArray, hol], List.take_length] at hys
      have hyl := ints_len hys
      rw [List.length_map, List.length_map] at hyl
      have oD := off1_size N'
      k_dflt (refine add_lists (vs := os) (ws := ys) (by k_asm) (by k_asm) (News.isList (by k_asm) (by k_mem)) (News.isList (by k_asm) (by k_mem)) ?_ (by rw [PySem.sizeLine_eq]; omega))
      intro h5 F5 N5
      dsimp only at N5 F5 oD ⊢
      generalize h'.objs.size = D5 at *
      have N6 : News h₀ L h5 ((L + 1 + 1 + 1 + 1 + 1 + 1 + 1 + 1, o8') :: (D5, W.listOf (os ++ ys).toArray 0) :: (I, oI) :: rest) := news_sub N5 (by
        intro q hq
        simp only [List.mem_cons] at hq ⊢
        rcases hq with h | h | h | h <;> simp [h])
      have hI8 := off _ (List.mem_cons_of_mem _ List.mem_cons_self)
      have hne : ∀ p ∈ (D5, W.listOf (os ++ ys).toArray 0) :: (I, oI) :: rest, p.1 ≠ L + 1 + 1 + 1 + 1 + 1 + 1 + 1 + 1 := by
        intro q hq
        rcases List.mem_cons.mp hq with rfl | hq
        · exact Ne.symm oD.2.2.2.1
        · rcases List.mem_cons.mp hq with rfl | hq
          · exact Ne.symm hI8
          · exact hR q hq
      k_dflt (refine storeX_C F5 N6 (by rfl) (UpdF.head hne) d8 ?_ (by rfl) (by rfl))
      intro h6 o9 F6 N7 d9
      dsimp only
      iterate 1 (first | (k_unfold; (try dsimp only)) | (k_end; wrow_close) | walk1 | (dsimp only; walk1) | (leave1; walk_say "STEP leave1"; try dsimp only) | fail "no step")
      refine hQ9 _ _ ?_
      refine ⟨h6, _, _, (D5, W.listOf (os ++ ys).toArray 0) :: (L + 1 + 1 + 1 + 1 + 1 + 1 + 1 + 1, o9) :: rest, rfl, F6, news_sub N7 ?_, ?_, trivial, ?_, D5, os ++ ys, 0, o9, rfl, ?_, d9, ⟨oD.2.2.2.1, oD.2.2.2.2⟩⟩
      · intro q hq
        simp only [List.mem_cons] at hq ⊢
        rcases hq with h | h | h | h <;> simp [h]
      · intro q hq
        rcases List.mem_cons.mp hq with rfl | hq
        · exact Ne.symm oD.2.1
        · rcases List.mem_cons.mp hq with rfl | hq
          · exact hI8
          · exact off q (List.mem_cons_of_mem _ (List.mem_cons_of_mem _ hq))
      · intro y hy
        exact (if_neg hy).trans (hmm y hy)
      · rw [onesL, castL_app]
        exact ints_app hos hys
  · intro m₁ nw h4 tk hJ F N
    obtain ⟨hmm, ol, os, no, o8', rfl, hos, d8, oo⟩ := hJ
    dsimp only
    intro htk
    exact h m₁ h4 _ o8' ol os no hos d8 oo hmm htk F N
end
end
section
theorem seed31 : True := by
  w_top off
  exact True.intro
section
variable {w : World} {dp un : Nat} {gd : Option (List Code)} {cn : Str} {cs : Scope} {a : Addr} {ccd : Value} {cl : List (Str × Addr)} {outer : List Env} {A₀ : Around} {base h₀ : Heap} {L : Addr} {m : Str → Option Value} {rest : List (Addr × Obj)} {s : Shared}
    {Q E : Value → Shared → Prop} {Q2 : Flow → Shared → Prop} {p : Program} {loose : List Str} {mean : ExcName → Option Value} {mg mb : Str → Option Value}
abbrev dsL (ds : List (Addr × List Value × Nat)) : List (Addr × Obj) := ds.map fun d => (d.1, W.listOf d.2.1.toArray d.2.2)
def DueAt (ds : List (Addr × List Value × Nat)) (xs : List Int) (kn : List Nat) (wds : List (List Nat)) (R : Nat) : Prop :=
  ∀ k d, ds[k]? = some d → ∃ t0 t1 t2 t3 t4 t5, d.2.1 = dueV xs kn wds R k t0 t1 t2 t3 t4 t5
theorem off3_app {I C D : Addr} : ∀ {l r : List (Addr × Obj)}, LCg.Off3 I C D l → LCg.Off3 I C D r → LCg.Off3 I C D (l ++ r)
  | [], _, _, h => h
  | _ :: _, _, h, h2 => ⟨h.1, off3_app h.2 h2⟩
theorem off1_of_mem {D : Addr} : ∀ {l : List (Addr × Obj)}, (∀ p ∈ l, p.1 ≠ D) → LCg.Off1 D l
  | [], _ => trivial
  | p :: _, h => ⟨h p List.mem_cons_self, off1_of_mem fun q hq => h q (List.mem_cons_of_mem _ hq)⟩
theorem dsL_snoc (ds : List (Addr × List Value × Nat)) (d : Addr × List Value × Nat) : dsL (ds ++ [d]) = dsL ds ++ [(d.1, W.listOf d.2.1.toArray d.2.2)] := List.map_append
theorem mem_r1 {α : Type} {r w o c2 c4 c5 c8 I C D : α} {x y : List α} : ∀ q ∈ r :: w :: o :: c2 :: c4 :: c5 :: c8 :: I :: C :: D :: (y ++ x), q ∈ I :: C :: D :: (y ++ (r :: w :: o :: c2 :: c4 :: c5 :: c8 :: x)) := by
  ((repeat' (first | refine List.forall_mem_cons.mpr ⟨?_, ?_⟩ | refine List.forall_mem_append.mpr ⟨?_, ?_⟩)) <;> first | ((repeat (first | exact List.mem_cons_self | refine List.mem_cons_of_mem _ ?_ | refine List.mem_append_right _ ?_)); done) | exact List.forall_mem_nil _ | (intro q hq; (repeat (first | exact hq | exact List.mem_append_left _ hq | refine List.mem_cons_of_mem _ ?_ | refine List.mem_append_right _ ?_)); done))
theorem mem_r2 {α : Type} {r w o c2 c4 c5 c8 I C D d : α} {x y : List α} : ∀ q ∈ I :: C :: D :: ((y ++ [d]) ++ (r :: w :: o :: c2 :: c4 :: c5 :: c8 :: x)), q ∈ d :: r :: w :: o :: c2 :: c4 :: c5 :: c8 :: I :: C :: D :: (y ++ x) := by
  ((repeat' (first | refine List.forall_mem_cons.mpr ⟨?_, ?_⟩ | refine List.forall_mem_append.mpr ⟨?_, ?_⟩)) <;> first | ((repeat (first | exact List.mem_cons_self | refine List.mem_cons_of_mem _ ?_ | refine List.mem_append_right _ ?_)); done) | exact List.forall_mem_nil _ | (intro q hq; (repeat (first | exact hq | exact List.mem_append_left _ hq | refine List.mem_cons_of_mem _ ?_ | refine List.mem_append_right _ ?_)); done))
theorem mem_r3 {α : Type} {r w o c2 c4 c5 c8 I C D : α} {x y : List α} : ∀ q ∈ r :: w :: o :: c2 :: c4 :: c5 :: c8 :: x, q ∈ r :: w :: o :: c2 :: c4 :: c5 :: c8 :: I :: C :: D :: (y ++ x) := by
  ((repeat' (first | refine List.forall_mem_cons.mpr ⟨?_, ?_⟩ | refine List.forall_mem_append.mpr ⟨?_, ?_⟩)) <;> first | ((repeat (first | exact List.mem_cons_self | refine List.mem_cons_of_mem _ ?_ | refine List.mem_append_right _ ?_)); done) | exact List.forall_mem_nil _ | (intro q hq; (repeat (first | exact hq | exact List.mem_append_left _ hq | refine List.mem_cons_of_mem _ ?_ | refine List.mem_append_right _ ?_)); done))
theorem st_A10 {rl wl ol : Addr} {rs ws os : List Value} {xs : List Int} {kn : List Nat} {o2 o4 o5 o8 : Obj} {nr nw no n R : Nat} {t2 : Tok}
    (hdp : dp < 370) (hun : un < 160) (B : Below A₀ base outer h₀) (F : Fr h₀ L s.heap m) (X : (hd.heap_39 w.params).In h₀) (T : Top p loose mean mg mb h₀) (hE : PassesOwn (model Challenge.rw_pg0080_01.row.prog w) (ktrTop dp un gd (Str.ofString "law") lawP.2.1 L a ccd (lawCl L) outer) (lawE L a ccd) E) (hL : @LT.lt Nat _ 121 L) (N : News h₀ L s.heap ((rl, W.listOf rs.toArray nr) :: (wl, W.listOf ws.toArray nw) :: (ol, W.listOf os.toArray no) :: (L + 1 + 1, o2) :: (L + 1 + 1 + 1 + 1, o4) :: (L + 1 + 1 + 1 + 1 + 1, o5) :: (L + 1 + 1 + 1 + 1 + 1 + 1 + 1 + 1, o8) :: rest))
    (c2 : isC o2 (some (.int (n : Int) t2))) (c4 : isC o4 (some (.ref rl))) (c5 : isC o5 (some (.ref wl))) (c8 : isC o8 (some (.ref ol)))
    (hrs : IntsAre rs xs) (hxl : xs.length = n) (hn3 : 3 ≤ n) (hn5 : n ≤ 5) (hws : StrsAre ws (xs.map fun x => mkS (wordOf x))) (hos : IntsAre os (castL kn)) (hR1 : R ∈ kn) (hR2 : ∀ a ∈ kn, a ≤ R) (hR4 : R ≤ 4) (hkl : kn.length ≤ 16) (htk : 0 < s.toks)
    (h : ∀ m' h' tk' dl ds nd, DueAt ds xs kn (xs.map wordOf) R → ds.length = n → m' (Str.ofString "due") = some (.ref dl) → (∀ y, y ≠ Str.ofString "due" → m' y = m y) → 0 < tk' → Fr h₀ L h' m' →
      News h₀ L h' ((dl, W.listOf (ds.map fun d => Value.ref d.1).toArray nd) :: (dsL ds ++ ((rl, W.listOf rs.toArray nr) :: (wl, W.listOf ws.toArray nw) :: (ol, W.listOf os.toArray no) :: (L + 1 + 1, o2) :: (L + 1 + 1 + 1 + 1, o4) :: (L + 1 + 1 + 1 + 1 + 1, o5) :: (L + 1 + 1 + 1 + 1 + 1 + 1 + 1 + 1, o8) :: rest))) →
      LCg.Off1 dl (dsL ds ++ ((rl, W.listOf rs.toArray nr) :: (wl, W.listOf ws.toArray nw) :: (ol, W.listOf os.toArray no) :: (L + 1 + 1, o2) :: (L + 1 + 1 + 1 + 1, o4) :: (L + 1 + 1 + 1 + 1 + 1, o5) :: (L + 1 + 1 + 1 + 1 + 1 + 1 + 1 + 1, o8) :: rest)) →
      (∀ d ∈ ds, LCg.Off1 d.1 ((rl, W.listOf rs.toArray nr) :: (wl, W.listOf ws.toArray nw) :: (ol, W.listOf os.toArray no) :: (L + 1 + 1, o2) :: (L + 1 + 1 + 1 + 1, o4) :: (L + 1 + 1 + 1 + 1 + 1, o5) :: (L + 1 + 1 + 1 + 1 + 1 + 1 + 1 + 1, o8) :: rest)) →
      wpAny (model Challenge.rw_pg0080_01.row.prog w) (ktrTop dp un gd (Str.ofString "law") lawP.2.1 L a ccd (lawCl L) outer) (execs (lawP.1.drop 12) (lawE L a ccd)) Q2 E { s with heap := h', toks := tk' }) :
    wpAny (model Challenge.rw_pg0080_01.row.prog w) (ktrTop dp un gd (Str.ofString "law") lawP.2.1 L a ccd (lawCl L) outer) (execs (lawP.1.drop 11) (lawE L a ccd)) Q2 E s := by
  dsimp only [isC, lawP, List.drop] at *
  refine wpAny_execs_cons ?_
  refine wpAny_tok1 (n := 1) htk ?_
  iterate 8 (first | (k_unfold; (try dsimp only)) | (k_end; wrow_close) | walk1 | (dsimp only; walk1) | (leave1; walk_say "STEP leave1"; try dsimp only) | fail "no step")
  obtain ⟨B9, hB9⟩ : ∃ B9 : List (Addr × Obj), B9 = (rl, W.listOf rs.toArray nr) :: (wl, W.listOf ws.toArray nw) :: (ol, W.listOf os.toArray no) :: (L + 1 + 1, o2) :: (L + 1 + 1 + 1 + 1, o4) :: (L + 1 + 1 + 1 + 1 + 1, o5) :: (L + 1 + 1 + 1 + 1 + 1 + 1 + 1 + 1, o8) :: rest := ⟨_, rfl⟩
  have hws' : StrsAre ws ((xs.map wordOf).map mkS) := by rw [List.map_map]; exact hws
  k_dflt (refine LCg.CompSrc.range (n := n) (by rfl) (by k_asm) (by k_asm) (by assumption) (rng_small _ (by omega)) (rng_size _) (by rw [PySem.sizeLine_eq]; omega) ?_; intro g9)
  refine comp_J (fun i ys nw' => ∃ ds, nw' = dsL ds ++ B9 ∧ ys = ds.map (fun d => Value.ref d.1) ∧ ds.length = i ∧ DueAt ds xs kn (xs.map wordOf) R ∧ ∀ d ∈ ds, LCg.Off1 d.1 B9) ⟨[], by rw [hB9]; rfl, rfl, rfl, (fun k d hd => by simp at hd), (fun d hd => by cases hd)⟩ ?_ ?_
  · intro i ys news₁ v I oI C oC D m₂ h tk E' hi hJ hv hC hx F N off ne
    refine wp_name fun Q9 hQ9 => ?_
    obtain ⟨ds, rfl, rfl, hdl, hda, hdo⟩ := hJ
    obtain ⟨t, rfl⟩ := hv
    rw [show (0 : Int) + (i : Int) = (i : Int) by omega] at hx
    obtain ⟨ne1, ne2, ne3⟩ := ne
    have N8 : News h₀ L h ((rl, W.listOf rs.toArray nr) :: (wl, W.listOf ws.toArray nw) :: (ol, W.listOf os.toArray no) :: (L + 1 + 1, o2) :: (L + 1 + 1 + 1 + 1, o4) :: (L + 1 + 1 + 1 + 1 + 1, o5) :: (L + 1 + 1 + 1 + 1 + 1 + 1 + 1 + 1, o8) :: (I, oI) :: (C, oC) :: (D, LCg.lst (ds.map fun d => Value.ref d.1)) :: (dsL ds ++ rest)) := news_sub N (by
      rw [hB9]
      exact mem_r1)
    clear N
    iterate 14 (first | (k_unfold; (try dsimp only)) | (k_end; wrow_close) | walk1 | (dsimp only; walk1) | (leave1; walk_say "STEP leave1"; try dsimp only) | fail "no step")
    have hx2 : ∀ x ∈ xs.map wordOf, x.length ≤ 2 := by
      intro x hx
      obtain ⟨y, _, rfl⟩ := List.mem_map.mp hx
      exact wordOf_len y
    refine wpAny_call (c_due (un := un) (dp := dp) (ns := xs) (kn := kn) (wds := xs.map wordOf) (R := R) (spot := i) (Nat.lt_of_lt_of_le hdp (by decide)) (Nat.lt_of_lt_of_le hun (by decide)) (by k_asm) (by k_asm) (by k_asm) N8 (by k_asm) (by rfl) hrs hws' hos hR1 hR2 hR4 (by omega) (by omega) (by simp) hkl hx2 (by omega) ?_)
    intro h2 tk2 D2 u0 u1 u2 u3 u4 u5 nD oD F2 N2
    refine hQ9 _ _ ?_
    refine LCg.CompEnd.intro F2 N2 (dsL (ds ++ [(D2, dueV xs kn (xs.map wordOf) R i u0 u1 u2 u3 u4 u5, nD)]) ++ B9) ?_ ?_ trivial ⟨ds ++ [(D2, dueV xs kn (xs.map wordOf) R i u0 u1 u2 u3 u4 u5, nD)], rfl, by simp, by simp [hdl], ?_, ?_⟩
    · rw [hB9, dsL_snoc]
      exact mem_r2
    · refine LCg.Off3.of fun p hp => ?_
      rw [dsL_snoc] at hp
      rcases List.mem_append.mp hp with hp | hp
      · rcases List.mem_append.mp hp with hp | hp
        · exact off.mem p (List.mem_append_left _ hp)
        · rw [List.mem_singleton.mp hp]
          exact ⟨Ne.symm (off1_mem oD (I, oI) (by k_mem)), Ne.symm (off1_mem oD (C, oC) (by k_mem)), Ne.symm (off1_mem oD (D, LCg.lst (ds.map fun d => Value.ref d.1)) (by k_mem))⟩
      · exact off.mem p (List.mem_append_right _ hp)
    · intro k d hd
      rcases Nat.lt_or_ge k ds.length with hk | hk
      · rw [List.getElem?_append_left hk] at hd
        exact hda k d hd
      · rw [List.getElem?_append_right hk] at hd
        have hk0 : k - ds.length = 0 := by
          rcases Nat.eq_zero_or_pos (k - ds.length) with z | z
          · exact z
          · rw [List.getElem?_eq_none (by show 1 ≤ _; exact z)] at hd
            cases hd
        rw [hk0] at hd
        cases hd
        obtain rfl : k = i := by omega
        exact ⟨_, _, _, _, _, _, rfl⟩
    · intro d hd
      rcases List.mem_append.mp hd with hd | hd
      · exact hdo d hd
      · rw [List.mem_singleton.mp hd, hB9]
        exact off1_of_mem fun p hp => off1_mem oD p (mem_r3 _ hp)
  · intro ys news₁ hJ
    obtain ⟨ds, rfl, rfl, hdl, hda, hdo⟩ := hJ
    unfold LCg.FinA
    intro SD h' tk' F' N' o1'
    intro htk
    refine h _ h' tk' SD ds _ hda hdl ?_ ?_ htk F' (by rw [hB9] at N'; exact N') (by rw [hB9] at o1'; exact o1') (by rw [hB9] at hdo; exact hdo)
    · rfl
    · intro y hy
      exact if_neg hy
end
end
section
theorem seed32 : True := by
  w_top off
  exact True.intro
section
variable {w : World} {dp un : Nat} {gd : Option (List Code)} {cn : Str} {cs : Scope} {a : Addr} {ccd : Value} {cl : List (Str × Addr)} {outer : List Env} {A₀ : Around} {base h₀ : Heap} {L : Addr} {m : Str → Option Value} {rest : List (Addr × Obj)} {s : Shared}
    {Q E : Value → Shared → Prop} {Q2 : Flow → Shared → Prop} {p : Program} {loose : List Str} {mean : ExcName → Option Value} {mg mb : Str → Option Value}
theorem and_half (a b : Nat) : (a &&& b) / 2 = (a / 2) &&& (b / 2) := by
  refine Nat.eq_of_testBit_eq fun i => ?_
  rw [Nat.testBit_and, ← Nat.testBit_succ, ← Nat.testBit_succ, ← Nat.testBit_succ, Nat.testBit_and]
theorem sub_and_bit : ∀ (i a b : Nat), (a - (a &&& b)).testBit i = (a.testBit i && !b.testBit i)
  | 0, a, b => by
    have h := Nat.testBit_and a b 0
    have l : a &&& b ≤ a := Nat.and_le_left
    generalize a &&& b = c at *
    simp only [Nat.testBit_zero] at h ⊢
    rcases Nat.mod_two_eq_zero_or_one a with ea | ea <;> rcases Nat.mod_two_eq_zero_or_one b with eb | eb <;> rcases Nat.mod_two_eq_zero_or_one c with ec | ec <;> simp [ea, eb, ec] at h ⊢ <;> omega
  | i + 1, a, b => by
    have h := Nat.testBit_and a b 0
    have l : a &&& b ≤ a := Nat.and_le_left
    have hh := and_half a b
    have ih := sub_and_bit i (a / 2) (b / 2)
    rw [← hh] at ih
    generalize a &&& b = c at *
    simp only [Nat.testBit_zero] at h
    have e : (a - c) / 2 = a / 2 - c / 2 := by
      rcases Nat.mod_two_eq_zero_or_one a with ea | ea <;> rcases Nat.mod_two_eq_zero_or_one b with eb | eb <;> rcases Nat.mod_two_eq_zero_or_one c with ec | ec <;> simp [ea, eb, ec] at h <;> omega
    rw [Nat.testBit_succ, e, ih, Nat.testBit_succ, Nat.testBit_succ]
def tb : Int → Nat → Bool
  | .ofNat n, i => n.testBit i
  | .negSucc n, i => !n.testBit i
theorem tb_ext {x y : Int} (h : ∀ i, tb x i = tb y i) : x = y := by
  have big : ∀ a b : Nat, ∃ i, a.testBit i = false ∧ b.testBit i = false := fun a b =>
    ⟨a + b, Nat.testBit_lt_two_pow (Nat.lt_of_lt_of_le Nat.lt_two_pow_self (Nat.pow_le_pow_right (by decide) (Nat.le_add_right _ _))), Nat.testBit_lt_two_pow (Nat.lt_of_lt_of_le Nat.lt_two_pow_self (Nat.pow_le_pow_right (by decide) (Nat.le_add_left _ _)))⟩
  cases x with
  | ofNat a =>
    cases y with
    | ofNat b => exact congrArg Int.ofNat (Nat.eq_of_testBit_eq h)
    | negSucc b =>
      obtain ⟨i, h1, h2⟩ := big a b
      have := h i
      simp [tb, h1, h2] at this
  | negSucc a =>
    cases y with
    | ofNat b =>
      obtain ⟨i, h1, h2⟩ := big a b
      have := h i
      simp [tb, h1, h2] at this
    | negSucc b => exact congrArg Int.negSucc (Nat.eq_of_testBit_eq fun i => by have := h i; simpa [tb] using this)
theorem and_tb (x y : Int) (i : Nat) : tb (Builtin.bitAnd x y) i = (tb x i && tb y i) := by
  cases x with
  | ofNat a =>
    cases y with
    | ofNat b =>
      show tb (Int.ofNat (a &&& b)) i = _
      simp [tb, Nat.testBit_and]
    | negSucc b =>
      have e : Builtin.bitAnd (Int.ofNat a) (Int.negSucc b) = Int.ofNat (a - (a &&& b)) := by
        have l : a &&& b ≤ a := Nat.and_le_left
        show (a : Int) - ((a &&& (Builtin.bitNot (Int.negSucc b)).toNat : Nat) : Int) = _
        rw [show (Builtin.bitNot (Int.negSucc b)).toNat = b by simp [Builtin.bitNot]]
        show (a : Int) - ((a &&& b : Nat) : Int) = ((a - (a &&& b) : Nat) : Int)
        omega
      rw [e]
      simp [tb, sub_and_bit]
  | negSucc a =>
    cases y with
    | ofNat b =>
      have e : Builtin.bitAnd (Int.negSucc a) (Int.ofNat b) = Int.ofNat (b - (b &&& a)) := by
        have l : b &&& a ≤ b := Nat.and_le_left
        show (b : Int) - ((b &&& (Builtin.bitNot (Int.negSucc a)).toNat : Nat) : Int) = _
        rw [show (Builtin.bitNot (Int.negSucc a)).toNat = a by simp [Builtin.bitNot]]
        show (b : Int) - ((b &&& a : Nat) : Int) = ((b - (b &&& a) : Nat) : Int)
        omega
      rw [e]
      simp [tb, sub_and_bit, Bool.and_comm]
    | negSucc b =>
      have e : Builtin.bitAnd (Int.negSucc a) (Int.negSucc b) = Int.negSucc (a ||| b) := by
        show Builtin.bitNot (((Builtin.bitNot (Int.negSucc a)).toNat ||| (Builtin.bitNot (Int.negSucc b)).toNat : Nat) : Int) = _
        rw [show (Builtin.bitNot (Int.negSucc a)).toNat = a by simp [Builtin.bitNot], show (Builtin.bitNot (Int.negSucc b)).toNat = b by simp [Builtin.bitNot]]
        simp [Builtin.bitNot]
        omega
      rw [e]
      simp [tb, Nat.testBit_or]
theorem not_tb (x : Int) (i : Nat) : tb (Builtin.bitNot x) i = !tb x i := by
  cases x with
  | ofNat n =>
    rw [show Builtin.bitNot (Int.ofNat n) = Int.negSucc n by simp [Builtin.bitNot]; omega]
    rfl
  | negSucc n =>
    rw [show Builtin.bitNot (Int.negSucc n) = Int.ofNat n by simp [Builtin.bitNot]]
    simp [tb]
theorem or_tb (x y : Int) (i : Nat) : tb (Builtin.bitOr x y) i = (tb x i || tb y i) := by
  unfold Builtin.bitOr
  rw [not_tb, and_tb, not_tb, not_tb]
  simp
theorem xor_tb (x y : Int) (i : Nat) : tb (Builtin.bitXor x y) i = (tb x i != tb y i) := by
  have e : Builtin.bitAnd (Builtin.bitOr x y) (Builtin.bitAnd x y) = Builtin.bitAnd x y := tb_ext fun i => by
    rw [and_tb, or_tb, and_tb]
    cases tb x i <;> cases tb y i <;> rfl
  have e2 : Builtin.bitXor x y = Builtin.bitAnd (Builtin.bitOr x y) (Builtin.bitNot (Builtin.bitAnd x y)) := by
    rw [bitAnd_not, e]
    rfl
  rw [e2, and_tb, or_tb, not_tb, and_tb]
  cases tb x i <;> cases tb y i <;> rfl
theorem zero_tb (i : Nat) : tb 0 i = false := Nat.zero_testBit i
theorem neg_tb (i : Nat) : tb (-1) i = true := by
  show (!Nat.testBit 0 i) = true
  rw [Nat.zero_testBit]
  rfl
abbrev dueC {α : Type} (f : Int × Int × Int × Int × Int → α) (xs : List Int) (R : Nat) : List α := (List.range xs.length).map fun k => f (dueS xs (castL (onesL R)) R k (R + 1))
end
end
section
theorem seed33 : True := by
  w_top off
  exact True.intro
section
variable {w : World} {dp un : Nat} {gd : Option (List Code)} {cn : Str} {cs : Scope} {a : Addr} {ccd : Value} {cl : List (Str × Addr)} {outer : List Env} {A₀ : Around} {base h₀ : Heap} {L : Addr} {m : Str → Option Value} {rest : List (Addr × Obj)} {s : Shared}
    {Q E : Value → Shared → Prop} {Q2 : Flow → Shared → Prop} {p : Program} {loose : List Str} {mean : ExcName → Option Value} {mg mb : Str → Option Value}
def gen {α : Type} (op : α → α → α) : Nat → (Nat → α) → α
  | 0, f => f 0
  | n + 1, f => op (gen op n f) (gen op n fun j => f (j + 1))
theorem pairsR_len {α : Type} (op : α → α → α) : ∀ (r : List α) (x z : α), (pairsR op x r z).length = r.length + 1
  | [], _, _ => rfl
  | y :: r, _, z => congrArg (· + 1) (pairsR_len op r y z)
theorem stepR_len {α : Type} (op : α → α → α) : ∀ l : List α, (stepR op l).length = l.length
  | [] => rfl
  | x :: r => pairsR_len op r x x
theorem iterR_len {α : Type} (op : α → α → α) : ∀ (n : Nat) (l : List α), (iterR op n l).length = l.length
  | 0, _ => rfl
  | n + 1, l => (iterR_len op n (stepR op l)).trans (stepR_len op l)
theorem pairsR_get {α : Type} (op : α → α → α) (d : α) : ∀ (r : List α) (x z : α) (k : Nat), k ≤ r.length → (pairsR op x r z).getD k d = op ((x :: r).getD k d) ((r ++ [z]).getD k d)
  | [], _, _, 0, _ => rfl
  | _ :: _, _, _, 0, _ => rfl
  | y :: r, _, z, k + 1, h => pairsR_get op d r y z k (Nat.le_of_succ_le_succ h)
theorem turn_get {α : Type} (d : α) : ∀ (r : List α) (x : α) (k : Nat), k ≤ r.length → (r ++ [x]).getD k d = (x :: r).getD ((k + 1) % (r.length + 1)) d := by
  intro r x k h
  rcases Nat.lt_or_ge k r.length with h1 | h1
  · rw [Nat.mod_eq_of_lt (by omega), List.getD, List.getElem?_append_left h1]
    rfl
  · obtain rfl : k = r.length := by omega
    rw [Nat.mod_self, List.getD, List.getElem?_append_right (Nat.le_refl _), Nat.sub_self]
    rfl
theorem stepR_get {α : Type} (op : α → α → α) (d : α) : ∀ (l : List α) (k : Nat), k < l.length → (stepR op l).getD k d = op (l.getD k d) (l.getD ((k + 1) % l.length) d)
  | x :: r, k, h => by
    have h1 : k ≤ r.length := Nat.le_of_lt_succ h
    rw [List.length_cons, ← turn_get d r x k h1]
    exact pairsR_get op d r x x k h1
theorem iterR_get {α : Type} (op : α → α → α) (d : α) (l : List α) : ∀ (n k : Nat), k < l.length → (iterR op n l).getD k d = gen op n fun j => l.getD ((k + j) % l.length) d
  | 0, k, h => by
    show l.getD k d = l.getD ((k + 0) % l.length) d
    rw [Nat.add_zero, Nat.mod_eq_of_lt h]
  | n + 1, k, h => by
    rw [iterR_succ, stepR_get op d _ k (by rw [iterR_len]; exact h), iterR_len, iterR_get op d l n k h, iterR_get op d l n _ (Nat.mod_lt _ (Nat.lt_of_le_of_lt (Nat.zero_le _) h))]
    show op _ _ = op _ (gen op n fun j => l.getD ((k + (j + 1)) % l.length) d)
    congr 2
    funext j
    rw [Nat.mod_add_mod, Nat.add_assoc, Nat.add_comm 1 j]
def dueF (f : Nat → Int) (ks : List Int) (R : Nat) : Nat → Int × Int × Int × Int × Int
  | 0 => (0, 0, 0, 0, -1)
  | j + 1 =>
    ((dueF f ks R j).1 + (ks.count (j : Int) : Nat) * f j,
     (dueF f ks R j).2.1 + (ks.count (j : Int) : Nat) * f j * (1 - ((j % 2 : Nat) : Int) * 2),
     if Builtin.bitAnd (j : Int) (R : Int) = (j : Int) then Builtin.bitXor (dueF f ks R j).2.2.1 (f j) else (dueF f ks R j).2.2.1,
     Builtin.bitOr (dueF f ks R j).2.2.2.1 (f j),
     Builtin.bitAnd (dueF f ks R j).2.2.2.2 (f j))
theorem dueS_eq (ns ks : List Int) (R spot : Nat) : ∀ j, dueS ns ks R spot j = dueF (fun j => ns.getD ((spot + j) % ns.length) 0) ks R j
  | 0 => rfl
  | j + 1 => by
    unfold dueS dueF
    rw [dueS_eq ns ks R spot j]
theorem getD_el {α : Type} (l : List α) (d : α) {k : Nat} (h : k < l.length) : l.getD k d = l[k] := by
  rw [List.getD, List.getElem?_eq_getElem h]
  rfl
theorem lift_law {op : Int → Int → Int} {proj : Int × Int × Int × Int × Int → Int}
    (h : ∀ f : Nat → Int, gen op 2 f = proj (dueF f (castL (onesL 2)) 2 3) ∧ gen op 3 f = proj (dueF f (castL (onesL 3)) 3 4) ∧ gen op 4 f = proj (dueF f (castL (onesL 4)) 4 5))
    {xs : List Int} {R : Nat} (h2 : 2 ≤ R) (h4 : R ≤ 4) : iterR op R xs = dueC proj xs R := by
  refine List.ext_getElem (by rw [iterR_len]; simp) fun k h1 _ => ?_
  rw [iterR_len] at h1
  have e := iterR_get op 0 xs R k h1
  rw [getD_el _ 0 (by rw [iterR_len]; exact h1)] at e
  rw [e, List.getElem_map, List.getElem_range, dueS_eq]
  have hR : R = 2 ∨ R = 3 ∨ R = 4 := by omega
  rcases hR with rfl | rfl | rfl
  · exact (h _).1
  · exact (h _).2.1
  · exact (h _).2.2
theorem law_add {xs : List Int} (_ : 3 ≤ xs.length) (_ : xs.length ≤ 5) {R : Nat} (h2 : 2 ≤ R) (h4 : R ≤ 4) : iterR (fun x y => x + y) R xs = dueC (fun p => p.1) xs R := by
  refine lift_law (fun f => ?_) h2 h4
  refine ⟨?_, ?_, ?_⟩ <;> simp (decide := true) [gen, dueF, onesL, castL] <;> omega
theorem law_sub {xs : List Int} (_ : 3 ≤ xs.length) (_ : xs.length ≤ 5) {R : Nat} (h2 : 2 ≤ R) (h4 : R ≤ 4) : iterR (fun x y => x - y) R xs = dueC (fun p => p.2.1) xs R := by
  refine lift_law (fun f => ?_) h2 h4
  refine ⟨?_, ?_, ?_⟩ <;> simp (decide := true) [gen, dueF, onesL, castL] <;> omega
theorem law_xor {xs : List Int} (_ : 3 ≤ xs.length) (_ : xs.length ≤ 5) {R : Nat} (h2 : 2 ≤ R) (h4 : R ≤ 4) : iterR (fun x y => Builtin.bitXor x y) R xs = dueC (fun p => p.2.2.1) xs R := by
  refine lift_law (fun f => ?_) h2 h4
  refine ⟨?_, ?_, ?_⟩ <;> simp (decide := true) [gen, dueF, onesL, castL] <;> refine tb_ext fun i => ?_ <;> simp only [xor_tb, or_tb, and_tb, zero_tb, neg_tb] <;> (generalize tb (f 0) i = A9; generalize tb (f 1) i = B9; generalize tb (f 2) i = C9; generalize tb (f 3) i = D9; generalize tb (f 4) i = E9; revert A9 B9 C9 D9 E9; decide)
theorem law_or {xs : List Int} (_ : 3 ≤ xs.length) (_ : xs.length ≤ 5) {R : Nat} (h2 : 2 ≤ R) (h4 : R ≤ 4) : iterR (fun x y => Builtin.bitOr x y) R xs = dueC (fun p => p.2.2.2.1) xs R := by
  refine lift_law (fun f => ?_) h2 h4
  refine ⟨?_, ?_, ?_⟩ <;> simp (decide := true) [gen, dueF, onesL, castL] <;> refine tb_ext fun i => ?_ <;> simp only [xor_tb, or_tb, and_tb, zero_tb, neg_tb] <;> (generalize tb (f 0) i = A9; generalize tb (f 1) i = B9; generalize tb (f 2) i = C9; generalize tb (f 3) i = D9; generalize tb (f 4) i = E9; revert A9 B9 C9 D9 E9; decide)
theorem law_and {xs : List Int} (_ : 3 ≤ xs.length) (_ : xs.length ≤ 5) {R : Nat} (h2 : 2 ≤ R) (h4 : R ≤ 4) : iterR (fun x y => Builtin.bitAnd x y) R xs = dueC (fun p => p.2.2.2.2) xs R := by
  refine lift_law (fun f => ?_) h2 h4
  refine ⟨?_, ?_, ?_⟩ <;> simp (decide := true) [gen, dueF, onesL, castL] <;> refine tb_ext fun i => ?_ <;> simp only [xor_tb, or_tb, and_tb, zero_tb, neg_tb] <;> (generalize tb (f 0) i = A9; generalize tb (f 1) i = B9; generalize tb (f 2) i = C9; generalize tb (f 3) i = D9; generalize tb (f 4) i = E9; revert A9 B9 C9 D9 E9; decide)
end
end
section
theorem seed34 : True := by
  w_top off
  exact True.intro
section
variable {w : World} {dp un : Nat} {gd : Option (List Code)} {cn : Str} {cs : Scope} {a : Addr} {ccd : Value} {cl : List (Str × Addr)} {outer : List Env} {A₀ : Around} {base h₀ : Heap} {L : Addr} {m : Str → Option Value} {rest : List (Addr × Obj)} {s : Shared}
    {Q E : Value → Shared → Prop} {Q2 : Flow → Shared → Prop} {p : Program} {loose : List Str} {mean : ExcName → Option Value} {mg mb : Str → Option Value}
theorem pairsR_map {α β : Type} (f : α → β) (p : α → α → α) (q : β → β → β) (hf : ∀ x y, f (p x y) = q (f x) (f y)) : ∀ (l : List α) (x z : α), (pairsR p x l z).map f = pairsR q (f x) (l.map f) (f z)
  | [], x, z => by simp [pairsR, hf]
  | y :: l, x, z => by simp [pairsR, hf, pairsR_map f p q hf l y z]
theorem stepR_map {α β : Type} (f : α → β) (p : α → α → α) (q : β → β → β) (hf : ∀ x y, f (p x y) = q (f x) (f y)) : ∀ (l : List α), (stepR p l).map f = stepR q (l.map f)
  | [] => rfl
  | x :: l => pairsR_map f p q hf l x x
theorem iterR_map {α β : Type} (f : α → β) (p : α → α → α) (q : β → β → β) (hf : ∀ x y, f (p x y) = q (f x) (f y)) : ∀ (n : Nat) (l : List α), (iterR p n l).map f = iterR q n (l.map f)
  | 0, _ => rfl
  | n + 1, l => by
    show (iterR p n (stepR p l)).map f = iterR q n (stepR q (l.map f))
    rw [iterR_map f p q hf n, stepR_map f p q hf]
abbrev catC (wds : List (List Nat)) (R : Nat) : List (List Nat) := (List.range wds.length).map fun k => dueT wds (onesL R) wds.length k
theorem gen_cat : ∀ (n : Nat) (f : Nat → List Nat), gen (fun x y => x ++ y) n f = ((onesL n).map f).flatten
  | 0, f => (List.append_nil (f 0)).symm
  | n + 1, f => by
    show gen _ n f ++ gen _ n _ = ((onesL n ++ (onesL n).map (· + 1)).map f).flatten
    rw [gen_cat n f, gen_cat n _, List.map_append, List.flatten_append, List.map_map]
    rfl
theorem law_cat {wds : List (List Nat)} (_ : 3 ≤ wds.length) (_ : wds.length ≤ 5) {R : Nat} (_ : 2 ≤ R) (_ : R ≤ 4) : iterR (fun x y => x ++ y) R (wds.map mkS) = (catC wds R).map mkS := by
  rw [← iterR_map mkS (fun x y => x ++ y) (fun x y => x ++ y) (fun x y => (mkS_append x y).symm)]
  congr 1
  refine List.ext_getElem (by rw [iterR_len]; simp) fun k h1 _ => ?_
  rw [iterR_len] at h1
  have e := iterR_get (fun x y => x ++ y) [] wds R k h1
  rw [getD_el _ [] (by rw [iterR_len]; exact h1), gen_cat] at e
  rw [e, List.getElem_map, List.getElem_range]
  rfl
end
end
section
theorem seed35 : True := by
  w_top off
  exact True.intro
section
variable {w : World} {dp un : Nat} {gd : Option (List Code)} {cn : Str} {cs : Scope} {a : Addr} {ccd : Value} {cl : List (Str × Addr)} {outer : List Env} {A₀ : Around} {base h₀ : Heap} {L : Addr} {m : Str → Option Value} {rest : List (Addr × Obj)} {s : Shared}
    {Q E : Value → Shared → Prop} {Q2 : Flow → Shared → Prop} {p : Program} {loose : List Str} {mean : ExcName → Option Value} {mg mb : Str → Option Value}
theorem onesL_facts {R : Nat} (h2 : 2 ≤ R) (h4 : R ≤ 4) : R ∈ onesL R ∧ (∀ a ∈ onesL R, a ≤ R) ∧ (onesL R).length ≤ 16 := by
  have hR : R = 2 ∨ R = 3 ∨ R = 4 := by omega
  rcases hR with rfl | rfl | rfl <;> decide
theorem nls_count (l : List Nat) : nls l = (l.count 10 : Nat) := by
  induction l with
  | nil => rfl
  | cons c l ih =>
    rw [nls, ih, List.count_cons]
    unfold nlOf
    by_cases h : c = 10
    · simp [h]; omega
    · simp [h]
theorem st_A12 {e : Lx} {o7 : Obj} {TX : List Nat} {tt t1 : Tok} {nf np : Nat}
    (hdp : dp < 370) (hun : un < 160) (B : Below A₀ base outer h₀) (F : Fr h₀ L s.heap m) (X : (hd.heap_39 w.params).In h₀) (T : Top p loose mean mg mb h₀) (hE : PassesOwn (model Challenge.rw_pg0080_01.row.prog w) (ktrTop dp un gd (Str.ofString "law") lawP.2.1 L a ccd (lawCl L) outer) (lawE L a ccd) E) (hL : @LT.lt Nat _ 121 L) (C : CodeHd base 125 121) (N : News h₀ L s.heap ((L + 1 + 1 + 1 + 1 + 1 + 1 + 1, o7) :: (e.pb, W.listOf ([] : List Value).toArray np) :: (lexL e (1 + nls TX) t1 [] nf ++ rest)))
    (ok : e.Ok) (c7 : isC o7 (some (.ref e.x))) (hm4 : m (Str.ofString "text") = some (.str (mkS TX) tt)) (htx : TX.length < 200) (htk : 0 < s.toks) (h7 : @LT.lt Nat _ (L + 1 + 1 + 1 + 1 + 1 + 1 + 1) e.lf)
    (e8 : ∀ p ∈ rest, p.1 ≠ e.lf) (g8 : ∀ p ∈ rest, p.1 ≠ e.dx)
    (h : ∀ h' tk', Fr h₀ L h' m → News h₀ L h' ((L + 1 + 1 + 1 + 1 + 1 + 1 + 1, o7) :: (e.pb, W.listOf ([] : List Value).toArray np) :: (lexL e (1 + nls TX) t1 [] nf ++ rest)) → Q2 (.ret (.bool true)) { s with heap := h', toks := tk' }) :
    wpAny (model Challenge.rw_pg0080_01.row.prog w) (ktrTop dp un gd (Str.ofString "law") lawP.2.1 L a ccd (lawCl L) outer) (execs (lawP.1.drop 13) (lawE L a ccd)) Q2 E s := by
  have ord := ok.ord
  dsimp only [isC, lawP, List.drop] at *
  have N8 : News h₀ L s.heap ((e.pb, W.listOf ([] : List Value).toArray np) :: (lexL e (1 + nls TX) t1 [] nf ++ ((L + 1 + 1 + 1 + 1 + 1 + 1 + 1, o7) :: rest))) := news_sub N (mem_s1 (l := lexL e (1 + nls TX) t1 [] nf))
  have N0 := N
  dsimp only [lexL, lamP, chv, List.cons_append, List.nil_append] at N0
  clear N
  have e8' : ∀ p ∈ (L + 1 + 1 + 1 + 1 + 1 + 1 + 1, o7) :: rest, p.1 ≠ e.lf := by
    intro q hq
    rcases List.mem_cons.mp hq with rfl | hq
    · exact Nat.ne_of_lt h7
    · exact e8 q hq
  have g8' : ∀ p ∈ (L + 1 + 1 + 1 + 1 + 1 + 1 + 1, o7) :: rest, p.1 ≠ e.dx := by
    intro q hq
    rcases List.mem_cons.mp hq with rfl | hq
    · refine neN ?_
      dsimp only
      omega
    · exact g8 q hq
  iterate 8 (first | (k_unfold; (try dsimp only)) | (k_end; wrow_close) | walk1 | (dsimp only; walk1) | (leave1; walk_say "STEP leave1"; try dsimp only) | fail "no step")
  refine wpAny_tok1 (n := 1) htk ?_
  refine wpAny_call (c_get_0 (un := un) (dp := dp) ok (Nat.lt_of_lt_of_le hdp (by decide)) (Nat.lt_of_lt_of_le hun (by decide)) (by k_asm) (by k_asm) (by k_asm) N8 (by k_asm) (by rfl) C e8' g8' ?_)
  intro h2 tk2 u F2 N2
  intro htk2
  have N3 := news_sub N2 (mem_b1 (l := lexL e (1 + nls TX) t1 [] nf) (p := (e.pb, W.listOf ([] : List Value).toArray np)) (a := (L + 1 + 1 + 1 + 1 + 1 + 1 + 1, o7)) (r := rest))
  have N4 := N3
  dsimp only [lexL, lamP, chv, List.cons_append, List.nil_append] at N4
  clear N0
  iterate 20 (first | (k_unfold; (try dsimp only)) | (k_end; wrow_close) | walk1 | (dsimp only; walk1) | (leave1; walk_say "STEP leave1"; try dsimp only) | fail "no step")
  have htk3 : @LT.lt Nat _ 0 tk2 := htk2
  rw [show Str.ofString "\n" = (⟨#[10]⟩ : Str) by decide +kernel]
  refine wpAny_call (c_count (un := un) (dp := dp) (x := mkS TX) (c0 := 10) (Nat.lt_of_lt_of_le hdp (by decide)) (Nat.lt_of_lt_of_le hun (by decide)) (by k_asm) (by k_asm) (by k_asm) N3 (by k_asm) (by rfl) ?_ ?_ (by simp; omega) ?_)
  · exact Nat.succ_pos _
  · exact Nat.lt_succ_self _
  · intro h3 tk3 t3 F3 N5
    rw [show ((mkS TX).cps.toList.count 10 : Nat) = TX.count 10 by simp] at *
    iterate 2 (first | (k_unfold; (try dsimp only)) | (k_end; wrow_close) | walk1 | (dsimp only; walk1) | (leave1; walk_say "STEP leave1"; try dsimp only) | fail "no step")
    rw [← nls_count, beq_self_eq_true]
    exact h _ _ F3 N5
end
end
section
theorem seed36 : True := by
  w_top off
  exact True.intro
section
variable {w : World} {dp un : Nat} {gd : Option (List Code)} {cn : Str} {cs : Scope} {a : Addr} {ccd : Value} {cl : List (Str × Addr)} {outer : List Env} {A₀ : Around} {base h₀ : Heap} {L : Addr} {m : Str → Option Value} {rest : List (Addr × Obj)} {s : Shared}
    {Q E : Value → Shared → Prop} {Q2 : Flow → Shared → Prop} {p : Program} {loose : List Str} {mean : ExcName → Option Value} {mg mb : Str → Option Value}
theorem nm_at {l : List (Str × Tok)} (h : Nm l) {q : Str × Tok} (hq : q ∈ l) : ∃ k, l[k]? = some q ∧ k < 6 ∧ nameS[k]? = some q.1 ∧ ∀ i p, i < k → l[i]? = some p → p.1 ≠ q.1 := by
  obtain ⟨k, hk⟩ := List.getElem?_of_mem hq
  have hn : ∀ (i : Nat) (p : Str × Tok), l[i]? = some p → nameS[i]? = some p.1 := by
    intro i p hp
    rw [← h.map, List.getElem?_map, hp]
    rfl
  have nd : ∀ k : Fin 6, ∀ i : Fin 6, i < k → nameS[i.val]? ≠ nameS[k.val]? := by decide +kernel
  have hk6 : ∀ (i : Nat) (p : Str × Tok), l[i]? = some p → i < 6 := by
    intro i p hp
    have := (List.getElem?_eq_some_iff.mp (hn i p hp)).1
    simpa [nameS] using this
  refine ⟨k, hk, hk6 k q hk, hn k q hk, fun i p hi hp e => ?_⟩
  refine nd ⟨k, hk6 k q hk⟩ ⟨i, hk6 i p hp⟩ hi ?_
  show nameS[i]? = nameS[k]?
  rw [hn i p hp, hn k q hk, e]
def forB : List Stmt → Option (List Stmt)
  | .For _ _ b _ _ :: _ => some b
  | _ => none
noncomputable abbrev lawB : Σ' (b : List Stmt), forB (lawP.1.drop 12) = some b := ⟨_, by with_unfolding_all rfl⟩
theorem vals_ints {j : Nat} {vs : List Value} {xs : List Int} (h : Vals VI j vs xs) : IntsAre vs xs := by
  induction h with
  | nil => exact .nil
  | cons a _ ih =>
    obtain ⟨t, rfl⟩ := a
    exact .cons _ _ ih
theorem ints_vals {vs : List Value} {xs : List Int} (h : IntsAre vs xs) : Vals VI 0 vs xs := by
  induction h with
  | nil => exact .nil
  | cons x t _ ih => exact .cons ⟨t, rfl⟩ ih
theorem vals_strs {j : Nat} {vs : List Value} {xs : List Str} (h : Vals VS j vs xs) : StrsAre vs xs := by
  induction h with
  | nil => exact .nil
  | cons a _ ih =>
    obtain ⟨⟨t, rfl⟩, _⟩ := a
    exact .cons _ _ ih
theorem strs_vals {vs : List Value} {xs : List Str} (h : StrsAre vs xs) (hl : ∀ x ∈ xs, x.length ≤ 2) : Vals VS 0 vs xs := by
  induction h with
  | nil => exact .nil
  | cons x t _ ih => exact .cons ⟨⟨t, rfl⟩, hl x List.mem_cons_self⟩ (ih fun y hy => hl y (List.mem_cons_of_mem _ hy))
abbrev deedL : List Value := [.ref 98, .ref 63, .ref 84, .ref 91, .ref 77, .ref 70]
structure IntDeed (w : World) (k : Nat) (f : Addr) (op : Int → Int → Int) (proj : Int × Int × Int × Int × Int → Int) : Prop where
  deed : Deed w f Int VI op
  kept : keepIn (hd.heap_39 w.params) (.ref f) = true
  at' : deedL[k]? = some (.ref f)
  law : ∀ {xs : List Int}, 3 ≤ xs.length → xs.length ≤ 5 → ∀ {R : Nat}, 2 ≤ R → R ≤ 4 → iterR op R xs = dueC proj xs R
  row : ∀ (xs : List Int) (kn : List Nat) (wds : List (List Nat)) (R spot : Nat) (t0 t1 t2 t3 t4 t5 : Tok), ∃ t, (dueV xs kn wds R spot t0 t1 t2 t3 t4 t5)[k]? = some (.int (proj (dueS xs (castL kn) R spot (R + 1))) t)
theorem int_deed : ∀ k, 1 ≤ k → k < 6 → ∃ f op proj, IntDeed w k f op proj := by
  intro k h1 h6
  have : k = 1 ∨ k = 2 ∨ k = 3 ∨ k = 4 ∨ k = 5 := by omega
  rcases this with rfl | rfl | rfl | rfl | rfl
  · exact ⟨63, fun x y => x + y, fun p => p.1, d_add, by with_unfolding_all rfl, rfl, fun h3 h5 _ h2 h4 => law_add h3 h5 h2 h4, fun _ _ _ _ _ _ t1 _ _ _ _ => ⟨t1, rfl⟩⟩
  · exact ⟨84, fun x y => x - y, fun p => p.2.1, d_sub, by with_unfolding_all rfl, rfl, fun h3 h5 _ h2 h4 => law_sub h3 h5 h2 h4, fun _ _ _ _ _ _ _ t2 _ _ _ => ⟨t2, rfl⟩⟩
  · exact ⟨91, fun x y => Builtin.bitXor x y, fun p => p.2.2.1, d_xor, by with_unfolding_all rfl, rfl, fun h3 h5 _ h2 h4 => law_xor h3 h5 h2 h4, fun _ _ _ _ _ _ _ _ t3 _ _ => ⟨t3, rfl⟩⟩
  · exact ⟨77, fun x y => Builtin.bitOr x y, fun p => p.2.2.2.1, d_or, by with_unfolding_all rfl, rfl, fun h3 h5 _ h2 h4 => law_or h3 h5 h2 h4, fun _ _ _ _ _ _ _ _ _ t4 _ => ⟨t4, rfl⟩⟩
  · exact ⟨70, fun x y => Builtin.bitAnd x y, fun p => p.2.2.2.2, d_and, by with_unfolding_all rfl, rfl, fun h3 h5 _ h2 h4 => law_and h3 h5 h2 h4, fun _ _ _ _ _ _ _ _ _ _ t5 => ⟨t5, rfl⟩⟩
theorem dsL_mem {ds : List (Addr × List Value × Nat)} {i : Nat} {d : Addr × List Value × Nat} (h : ds[i]? = some d) : (d.1, W.listOf d.2.1.toArray d.2.2) ∈ dsL ds :=
  List.mem_map.mpr ⟨d, List.mem_of_getElem? h, rfl⟩
end
end
section
theorem seed37 : True := by
  w_top off
  exact True.intro
section
variable {w : World} {dp un : Nat} {gd : Option (List Code)} {cn : Str} {cs : Scope} {a : Addr} {ccd : Value} {cl : List (Str × Addr)} {outer : List Env} {A₀ : Around} {base h₀ : Heap} {L : Addr} {m : Str → Option Value} {rest : List (Addr × Obj)} {s : Shared}
    {Q E : Value → Shared → Prop} {Q2 : Flow → Shared → Prop} {p : Program} {loose : List Str} {mean : ExcName → Option Value} {mg mb : Str → Option Value}
theorem mem_q8 {α : Type} {p a b c d f g i k : α} {l r : List α} : ∀ q ∈ b :: a :: c :: d :: f :: g :: i :: k :: p :: (l ++ r), q ∈ p :: (l ++ (a :: b :: c :: d :: f :: g :: i :: k :: r)) := by
  ((repeat' (first | refine List.forall_mem_cons.mpr ⟨?_, ?_⟩ | refine List.forall_mem_append.mpr ⟨?_, ?_⟩)) <;> first | ((repeat (first | exact List.mem_cons_self | refine List.mem_cons_of_mem _ ?_ | refine List.mem_append_right _ ?_)); done) | exact List.forall_mem_nil _ | (intro q hq; (repeat (first | exact hq | exact List.mem_append_left _ hq | refine List.mem_cons_of_mem _ ?_ | refine List.mem_append_right _ ?_)); done))
theorem mem_q9 {α : Type} {p a b c d f g i k x y : α} {l r : List α} : ∀ q ∈ p :: (l ++ (a :: c :: d :: f :: g :: i :: k :: r)), q ∈ x :: y :: b :: a :: c :: d :: f :: g :: i :: k :: p :: (l ++ r) := by
  ((repeat' (first | refine List.forall_mem_cons.mpr ⟨?_, ?_⟩ | refine List.forall_mem_append.mpr ⟨?_, ?_⟩)) <;> first | ((repeat (first | exact List.mem_cons_self | refine List.mem_cons_of_mem _ ?_ | refine List.mem_append_right _ ?_)); done) | exact List.forall_mem_nil _ | (intro q hq; (repeat (first | exact hq | exact List.mem_append_left _ hq | refine List.mem_cons_of_mem _ ?_ | refine List.mem_append_right _ ?_)); done))
theorem ints_mem {vs : List Value} {ns : List Int} (h : IntsAre vs ns) : ∀ {v : Value}, v ∈ vs → ∃ x t, v = .int x t := by
  induction h with
  | nil => intro v hv; cases hv
  | cons x t _ ih =>
    intro v hv
    rcases List.mem_cons.mp hv with rfl | hv
    · exact ⟨_, _, rfl⟩
    · exact ih hv
theorem tl_int {dl rl wl : Addr} {e : Lx} {ds : List (Addr × List Value × Nat)} {rs ws cv : List Value} {xs : List Int} {o3 o4 o5 o7 : Obj} {nr nw nd np nf R k : Nat} {t3 kt t1 : Tok} {ln : Int} {f : Addr} {op : Int → Int → Int} {proj : Int × Int × Int × Int × Int → Int}
    (hdp : dp < 370) (hun : un < 160) (B : Below A₀ base outer h₀) (F : Fr h₀ L s.heap m) (X : (hd.heap_39 w.params).In h₀) (T : Top p loose mean mg mb h₀) (hE : PassesOwn (model Challenge.rw_pg0080_01.row.prog w) (ktrTop dp un gd (Str.ofString "law") lawP.2.1 L a ccd (lawCl L) outer) (lawE L a ccd) E) (hL : @LT.lt Nat _ 121 L) (N : News h₀ L s.heap ((e.pb, W.listOf ([] : List Value).toArray np) :: (lexL e ln t1 cv nf ++ ((rl, W.listOf rs.toArray nr) :: (wl, W.listOf ws.toArray nw) :: (dl, W.listOf (ds.map fun d => Value.ref d.1).toArray nd) :: (L + 1 + 1 + 1, o3) :: (L + 1 + 1 + 1 + 1, o4) :: (L + 1 + 1 + 1 + 1 + 1, o5) :: (L + 1 + 1 + 1 + 1 + 1 + 1 + 1, o7) :: (dsL ds ++ rest)))))
    (ok : e.Ok) (D : IntDeed w k f op proj) (hk1 : 1 ≤ k) (hk6 : k < 6)
    (c3 : isC o3 (some (.int (k : Int) kt))) (c4 : isC o4 (some (.ref rl))) (c5 : isC o5 (some (.ref wl))) (c7 : isC o7 (some (.ref e.x)))
    (hrs : IntsAre rs xs) (hn3 : 3 ≤ xs.length) (hn5 : xs.length ≤ 5) (hR2 : 2 ≤ R) (hR4 : R ≤ 4) (hdl : ds.length = xs.length) {wds : List (List Nat)} (hda : DueAt ds xs (onesL R) wds R)
    (hm1 : m (Str.ofString "rounds") = some (.int (R : Int) t3)) (hm2 : m (Str.ofString "due") = some (.ref dl))
    (hrl : rl ≠ e.pb) (e8 : ∀ p ∈ (wl, W.listOf ws.toArray nw) :: (dl, W.listOf (ds.map fun d => Value.ref d.1).toArray nd) :: (L + 1 + 1 + 1, o3) :: (L + 1 + 1 + 1 + 1, o4) :: (L + 1 + 1 + 1 + 1 + 1, o5) :: (L + 1 + 1 + 1 + 1 + 1 + 1 + 1, o7) :: (dsL ds ++ rest), p.1 ≠ e.pb)
    (h : ∀ m' h' tk' np', (∀ y, y ≠ Str.ofString "deed" → y ≠ Str.ofString "came" → m' y = m y) → Fr h₀ L h' m' → News h₀ L h' ((e.pb, W.listOf ([] : List Value).toArray np') :: (lexL e ln t1 cv nf ++ ((rl, W.listOf rs.toArray nr) :: (wl, W.listOf ws.toArray nw) :: (dl, W.listOf (ds.map fun d => Value.ref d.1).toArray nd) :: (L + 1 + 1 + 1, o3) :: (L + 1 + 1 + 1 + 1, o4) :: (L + 1 + 1 + 1 + 1 + 1, o5) :: (L + 1 + 1 + 1 + 1 + 1 + 1 + 1, o7) :: (dsL ds ++ rest)))) → Q2 .next { s with heap := h', toks := tk' }) :
    wpAny (model Challenge.rw_pg0080_01.row.prog w) (ktrTop dp un gd (Str.ofString "law") lawP.2.1 L a ccd (lawCl L) outer) (execs (lawB.1.drop 2) (lawE L a ccd)) Q2 E s := by
  have ord := ok.ord
  dsimp only [isC, lawB, List.drop] at *
  have N0 := N
  dsimp only [lexL, lamP, chv, List.cons_append, List.nil_append] at N0
  refine wpAny_execs_cons ?_
  iterate 24 (first | (k_unfold; (try dsimp only)) | (k_end; wrow_close) | walk1 | (dsimp only; walk1) | (leave1; walk_say "STEP leave1"; try dsimp only) | fail "no step")
  refine wpAny_call (c_item (un := un) (dp := dp) (vs := deedL) (k := k) (v := .ref f) (Nat.lt_of_lt_of_le hdp (by decide)) (Nat.lt_of_lt_of_le hun (by decide)) (by k_asm) (by k_asm) (by k_asm) (by k_asm) (by k_asm) (by rfl) D.at' (by omega) ?_)
  intro h1 tk1 F1 N1
  have N2 := news_tail N1
  clear N1
  have hk9 : ((k : Int) != 0) = true := by
    simp
    omega
  iterate 22 (first | (k_unfold; (try dsimp only)) | (k_end; wrow_close) | walk1 | (dsimp only; walk1) | (leave1; walk_say "STEP leave1"; try dsimp only) | fail "no step")
  rename News _ _ _ _ => N2
  have hvl := ints_len hrs
  refine wpAny_call (c_rounds (un := un) (dp := dp) ok D.deed D.kept (xs := xs) (k := R) (ln := ln) (t1 := t1) (cv := cv) (nf := nf) (np := np) (rl := rl) (Nat.lt_of_lt_of_le hdp (by decide)) (Nat.lt_of_lt_of_le hun (by decide)) (by k_asm) (by k_asm) (by k_asm) N2 (by k_asm) (by rfl) (ints_vals hrs) (by omega) (by omega) hR4 hrl e8 ?_)
  intro h3 tk3 np3 vs' D3 nD hV F3 N3
  rw [D.law hn3 hn5 hR2 hR4] at hV
  have hI := vals_ints hV
  have hIl := ints_len hI
  have hcl : (dueC proj xs R).length = xs.length := by simp
  replace N3 := news_sub N3 (mem_q8 (l := lexL e ln t1 cv nf))
  iterate 9 (first | (k_unfold; (try dsimp only)) | (k_end; wrow_close) | walk1 | (dsimp only; walk1) | (leave1; walk_say "STEP leave1"; try dsimp only) | fail "no step")
  obtain ⟨LB, hLB⟩ : ∃ LB : List (Addr × Obj), LB = (D3, W.listOf vs'.toArray nD) :: (rl, W.listOf rs.toArray nr) :: (wl, W.listOf ws.toArray nw) :: (dl, W.listOf (ds.map fun d => Value.ref d.1).toArray nd) :: (L + 1 + 1 + 1, o3) :: (L + 1 + 1 + 1 + 1, o4) :: (L + 1 + 1 + 1 + 1 + 1, o5) :: (L + 1 + 1 + 1 + 1 + 1 + 1 + 1, o7) :: (e.pb, W.listOf ([] : List Value).toArray np3) :: (lexL e ln t1 cv nf ++ (dsL ds ++ rest)) := ⟨_, rfl⟩
  k_dflt (refine LCg.CompSrc.ledger (by rfl) (by k_asm) (by k_asm) (by k_mem) (by rw [PySem.sizeLine_eq, List.size_toArray, List.length_map]; omega) ?_; intro g9)
  refine comp_J (fun i ys nw' => nw' = LB ∧ IntsAre ys ((dueC proj xs R).take i)) ⟨hLB.symm, .nil⟩ ?_ ?_
  · intro i ys news₁ v I oI C oC D2 m₂ h5 tk E' hi hJ hv hC hx F N off ne
    refine wp_name fun Q9 hQ9 => ?_
    obtain ⟨rfl, hys⟩ := hJ
    obtain ⟨ne1, ne2, ne3⟩ := ne
    have hi' : i < ds.length := by simpa using hi
    obtain ⟨d, hd⟩ : ∃ d, ds[i]? = some d := ⟨_, List.getElem?_eq_getElem hi'⟩
    obtain rfl : v = .ref d.1 := by
      rw [List.getElem?_toArray, List.getElem?_map, hd] at hv
      exact (Option.some.inj hv).symm
    rw [hLB] at N
    iterate 3 (first | (k_unfold; (try dsimp only)) | (k_end; wrow_close) | walk1 | (dsimp only; walk1) | (leave1; walk_say "STEP leave1"; try dsimp only) | fail "no step")
    obtain ⟨u0, u1, u2, u3, u4, u5, hdv⟩ := hda i d hd
    obtain ⟨tv, htv⟩ := D.row xs (onesL R) wds R i u0 u1 u2 u3 u4 u5
    rw [← hdv] at htv
    refine item_in (vs := d.2.1) (by k_asm) (List.mem_cons_of_mem _ (List.mem_cons_of_mem _ (List.mem_cons_of_mem _ (List.mem_cons_of_mem _ (List.mem_cons_of_mem _ (List.mem_cons_of_mem _ (List.mem_cons_of_mem _ (List.mem_cons_of_mem _ (List.mem_cons_of_mem _ (List.mem_cons_of_mem _ (List.mem_cons_of_mem _ (List.mem_cons_of_mem _ (List.mem_append_right _ (List.mem_append_left _ (dsL_mem hd))))))))))))))) rfl (by omega) htv ?_
    rw [← hLB] at N
    refine hQ9 _ _ ?_
    refine LCg.CompEnd.intro F N news₁ (fun q hq => hq) off (.inr ⟨_, by rw [hLB]; k_mem, rfl, _, rfl⟩) ⟨rfl, ?_⟩
    have hce : (dueC proj xs R)[i]? = some (proj (dueS xs (castL (onesL R)) R i (R + 1))) := by
      rw [List.getElem?_map, List.getElem?_range (by omega)]
      rfl
    rw [List.take_add_one, hce]
    exact ints_snoc hys
  · intro ys news₁ hJ
    obtain ⟨rfl, hys⟩ := hJ
    unfold LCg.FinE
    intro SD h6 tk6 F6 N6 o1'
    rw [hLB] at N6
    rw [show (ds.map fun d => Value.ref d.1).toArray.size = (dueC proj xs R).length by rw [hcl]; simpa using hdl, List.take_length] at hys
    iterate 5 (first | (k_unfold; (try dsimp only)) | (k_end; wrow_close) | walk1 | (dsimp only; walk1) | (leave1; walk_say "STEP leave1"; try dsimp only) | fail "no step")
    k_dflt (refine LCt.ListComp_T (F₀ := by k_asm) (by with_unfolding_all rfl) (by decide) (by rfl) (by decide) (by rfl) ?_)
    iterate 1 (first | (k_unfold; (try dsimp only)) | (k_end; wrow_close) | walk1 | (dsimp only; walk1) | (leave1; walk_say "STEP leave1"; try dsimp only) | fail "no step")
    k_dflt (refine LCt.CompSrcT.ledger (by rfl) (by k_asm) (by k_asm) (by k_mem) (by rw [PySem.sizeLine_eq, List.size_toArray]; omega) ?_; intro g10)
    obtain ⟨LC, hLC⟩ : ∃ LC : List (Addr × Obj), LC = (SD, LCg.lst ys) :: (D3, W.listOf vs'.toArray nD) :: (rl, W.listOf rs.toArray nr) :: (wl, W.listOf ws.toArray nw) :: (dl, W.listOf (ds.map fun d => Value.ref d.1).toArray nd) :: (L + 1 + 1 + 1, o3) :: (L + 1 + 1 + 1 + 1, o4) :: (L + 1 + 1 + 1 + 1 + 1, o5) :: (L + 1 + 1 + 1 + 1 + 1 + 1 + 1, o7) :: (e.pb, W.listOf ([] : List Value).toArray np3) :: (lexL e ln t1 cv nf ++ (dsL ds ++ rest)) := ⟨_, rfl⟩
    refine comp_JT (fun i ys2 nw' => nw' = LC ∧ ys2 = []) ⟨hLC.symm, rfl⟩ ?_ ?_
    · intro i ys2 news₁ v I oI C oC D2 m₂ h5 tk E' hi hJ hv hC hx F N off ne
      obtain ⟨rfl, rfl⟩ := hJ
      obtain ⟨ne1, ne2, ne3⟩ := ne
      obtain ⟨x0, tx, rfl⟩ : ∃ x t, v = .int x t := by
        exact ints_mem hI (by simpa using Array.mem_of_getElem? hv)
      iterate 12 (first | (k_unfold; (try dsimp only)) | (k_end; wrow_close) | walk1 | (dsimp only; walk1) | (leave1; walk_say "STEP leave1"; try dsimp only) | fail "no step")
      exact LCg.CompEnd.intro F N news₁ (fun q hq => hq) off (.inr ⟨_, by rw [hLC]; k_mem, rfl, _, rfl⟩) ⟨rfl, trivial⟩
    · intro ys2 news₁ hJ
      obtain ⟨rfl, rfl⟩ := hJ
      unfold LCg.FinE
      intro ED h7 tk7 F7 N7 o2'
      rw [hLC] at N7
      iterate 7 (first | (k_unfold; (try dsimp only)) | (k_end; wrow_close) | walk1 | (dsimp only; walk1) | (leave1; walk_say "STEP leave1"; try dsimp only) | fail "no step")
      refine h _ _ _ np3 ?_ F7 (news_sub N7 (mem_q9 (l := lexL e ln t1 cv nf)))
      intro y hy1 hy2
      exact (if_neg hy2).trans (if_neg hy1)
end
end
section
theorem seed38 : True := by
  w_top off
  exact True.intro
section
variable {w : World} {dp un : Nat} {gd : Option (List Code)} {cn : Str} {cs : Scope} {a : Addr} {ccd : Value} {cl : List (Str × Addr)} {outer : List Env} {A₀ : Around} {base h₀ : Heap} {L : Addr} {m : Str → Option Value} {rest : List (Addr × Obj)} {s : Shared}
    {Q E : Value → Shared → Prop} {Q2 : Flow → Shared → Prop} {p : Program} {loose : List Str} {mean : ExcName → Option Value} {mg mb : Str → Option Value}
theorem nm_word : ∀ x ∈ nameS, ∃ c wd, x = mkS (c :: wd) ∧ (∀ d ∈ c :: wd, signIn (Str.ofString "\n\t\r ") d = false ∧ d ≠ 92) ∧ c ≠ 34 ∧ wd.length < 10 := by
  have key : ∀ (x : Str) (c : Nat) (wd : List Nat), x = mkS (c :: wd) → (c :: wd).all (fun d => !signIn (Str.ofString "\n\t\r ") d && d != 92) = true → c ≠ 34 → wd.length < 10 → ∃ c wd, x = mkS (c :: wd) ∧ (∀ d ∈ c :: wd, signIn (Str.ofString "\n\t\r ") d = false ∧ d ≠ 92) ∧ c ≠ 34 ∧ wd.length < 10 := by
    intro x c wd hx ha hc hl
    refine ⟨c, wd, hx, fun d hd => ?_, hc, hl⟩
    have := List.all_eq_true.mp ha d hd
    simpa using this
  intro x hx
  simp only [nameS, List.mem_cons, List.not_mem_nil, or_false] at hx
  rcases hx with rfl | rfl | rfl | rfl | rfl | rfl
  · exact key _ 99 [111, 110, 99, 97, 116] (by decide +kernel) (by decide +kernel) (by decide) (by decide)
  · exact key _ 97 [100, 100] (by decide +kernel) (by decide +kernel) (by decide) (by decide)
  · exact key _ 115 [117, 98] (by decide +kernel) (by decide +kernel) (by decide) (by decide)
  · exact key _ 120 [111, 114] (by decide +kernel) (by decide +kernel) (by decide) (by decide)
  · exact key _ 111 [114, 95] (by decide +kernel) (by decide +kernel) (by decide) (by decide)
  · exact key _ 97 [110, 100, 95] (by decide +kernel) (by decide +kernel) (by decide) (by decide)
theorem mem_n1 {α : Type} {a b c d : α} {l : List α} : ∀ q ∈ b :: a :: c :: d :: l, q ∈ a :: b :: c :: d :: l := by
  ((repeat' (first | refine List.forall_mem_cons.mpr ⟨?_, ?_⟩ | refine List.forall_mem_append.mpr ⟨?_, ?_⟩)) <;> first | ((repeat (first | exact List.mem_cons_self | refine List.mem_cons_of_mem _ ?_ | refine List.mem_append_right _ ?_)); done) | exact List.forall_mem_nil _ | (intro q hq; (repeat (first | exact hq | exact List.mem_append_left _ hq | refine List.mem_cons_of_mem _ ?_ | refine List.mem_append_right _ ?_)); done))
theorem mem_n2 {α : Type} {a b c p : α} {l r : List α} : ∀ q ∈ p :: (l ++ (a :: b :: c :: r)), q ∈ a :: b :: c :: p :: (l ++ r) := by
  ((repeat' (first | refine List.forall_mem_cons.mpr ⟨?_, ?_⟩ | refine List.forall_mem_append.mpr ⟨?_, ?_⟩)) <;> first | ((repeat (first | exact List.mem_cons_self | refine List.mem_cons_of_mem _ ?_ | refine List.mem_append_right _ ?_)); done) | exact List.forall_mem_nil _ | (intro q hq; (repeat (first | exact hq | exact List.mem_append_left _ hq | refine List.mem_cons_of_mem _ ?_ | refine List.mem_append_right _ ?_)); done))
theorem mem_n3 {α : Type} {a b c p : α} {l r : List α} : ∀ q ∈ a :: b :: c :: p :: (l ++ r), q ∈ p :: (l ++ (a :: b :: c :: r)) := by
  ((repeat' (first | refine List.forall_mem_cons.mpr ⟨?_, ?_⟩ | refine List.forall_mem_append.mpr ⟨?_, ?_⟩)) <;> first | ((repeat (first | exact List.mem_cons_self | refine List.mem_cons_of_mem _ ?_ | refine List.mem_append_right _ ?_)); done) | exact List.forall_mem_nil _ | (intro q hq; (repeat (first | exact hq | exact List.mem_append_left _ hq | refine List.mem_cons_of_mem _ ?_ | refine List.mem_append_right _ ?_)); done))
theorem t_A {nl : Addr} {l : List (Str × Tok)} {e : Lx} {o3 o7 : Obj} {nn np nf : Nat} {y : Str} {u t1 : Tok} {ln : Int} {cv : List Value} {rc : List Nat}
    (hdp : dp < 370) (hun : un < 160) (B : Below A₀ base outer h₀) (F : Fr h₀ L s.heap m) (X : (hd.heap_39 w.params).In h₀) (T : Top p loose mean mg mb h₀) (hE : PassesOwn (model Challenge.rw_pg0080_01.row.prog w) (ktrTop dp un gd (Str.ofString "law") lawP.2.1 L a ccd (lawCl L) outer) (lawE L a ccd) E) (hL : @LT.lt Nat _ 121 L) (N : News h₀ L s.heap ((L + 1 + 1 + 1, o3) :: (nl, W.listOf (txts l).toArray nn) :: (L + 1 + 1 + 1 + 1 + 1 + 1 + 1, o7) :: (e.pb, W.listOf ([] : List Value).toArray np) :: (lexL e ln t1 cv nf ++ rest)))
    (C : CodeHd base 125 121) (hl : Nm l) (hq : (y, u) ∈ l) (hmn : m (Str.ofString "name") = some (.str y u)) (hm2 : m (Str.ofString "names") = some (.ref nl)) (ok : e.Ok) (c7 : isC o7 (some (.ref e.x))) {v3 : Option Value} (c3 : isC o3 v3)
    (hch : Chs cv (pieceB (y, u) ++ rc)) (hcl : cv.length ≤ 200)
    (hne : ∀ p ∈ (nl, W.listOf (txts l).toArray nn) :: (L + 1 + 1 + 1 + 1 + 1 + 1 + 1, o7) :: (e.pb, W.listOf ([] : List Value).toArray np) :: (lexL e ln t1 cv nf ++ rest), p.1 ≠ L + 1 + 1 + 1)
    (h7 : @LT.lt Nat _ (L + 1 + 1 + 1 + 1 + 1 + 1 + 1) e.lf) (hnl : @LT.lt Nat _ nl e.lf) (e8 : ∀ p ∈ rest, p.1 ≠ e.lf) (g8 : ∀ p ∈ rest, p.1 ≠ e.dx)
    (h : ∀ (k : Nat) o3' kt h' tk' cv' nf' t1', k < 6 → l[k]? = some (y, u) → isC o3' (some (.int (k : Int) kt)) → Chs cv' rc → cv'.length ≤ 200 → Fr h₀ L h' m →
      News h₀ L h' ((L + 1 + 1 + 1, o3') :: (nl, W.listOf (txts l).toArray nn) :: (L + 1 + 1 + 1 + 1 + 1 + 1 + 1, o7) :: (e.pb, W.listOf ([] : List Value).toArray np) :: (lexL e (ln + nls (pieceB (y, u))) t1' cv' nf' ++ rest)) →
      wpAny (model Challenge.rw_pg0080_01.row.prog w) (ktrTop dp un gd (Str.ofString "law") lawP.2.1 L a ccd (lawCl L) outer) (execs (lawB.1.drop 2) (lawE L a ccd)) Q2 E { s with heap := h', toks := tk' }) :
    wpAny (model Challenge.rw_pg0080_01.row.prog w) (ktrTop dp un gd (Str.ofString "law") lawP.2.1 L a ccd (lawCl L) outer) (execs lawB.1 (lawE L a ccd)) Q2 E s := by
  have ord := ok.ord
  obtain ⟨k, hk, hk6, hkn, hkd⟩ := nm_at hl hq
  obtain ⟨c, wd, rfl, hws, hc34, hwl⟩ := nm_word y (List.mem_of_getElem? hkn)
  dsimp only [isC, lawB, List.drop] at *
  have N0 := news_sub N mem_n1
  refine wpAny_execs_cons ?_
  iterate 10 (first | (k_unfold; (try dsimp only)) | (k_end; wrow_close) | walk1 | (dsimp only; walk1) | (leave1; walk_say "STEP leave1"; try dsimp only) | fail "no step")
  refine wpAny_call (c_index (un := un) (dp := dp) (k := k) (Nat.lt_of_lt_of_le hdp (by decide)) (Nat.lt_of_lt_of_le hun (by decide)) (by k_asm) (by k_asm) (by k_asm) N0 (by k_asm) (by rfl) hk hl.pos hl.one hkd ?_)
  intro h1 tk1 kt F1 N1
  replace N1 := news_sub N1 mem_n1
  refine storeX_C F1 N1 (by rfl) (UpdF.head hne) c3 ?_ (by rfl) (by rfl)
  intro h2 o3' F2 N2 d3
  have N3 := news_sub N2 (mem_n2 (l := lexL e ln t1 cv nf) (p := (e.pb, W.listOf ([] : List Value).toArray np)) (a := (L + 1 + 1 + 1, o3')) (b := (nl, W.listOf (txts l).toArray nn)) (c := (L + 1 + 1 + 1 + 1 + 1 + 1 + 1, o7)) (r := rest))
  clear N0 N1
  have N2' := N2
  dsimp only [lexL, lamP, chv, List.cons_append, List.nil_append] at N2'
  iterate 8 (first | (k_unfold; (try dsimp only)) | (k_end; wrow_close) | walk1 | (dsimp only; walk1) | (leave1; walk_say "STEP leave1"; try dsimp only) | fail "no step")
  have hch1 : Chs cv (10 :: c :: (wd ++ 9 :: rc)) := by
    have e1 : pieceB (mkS (c :: wd), u) ++ rc = 10 :: c :: (wd ++ 9 :: rc) := by simp [pieceB]
    rw [← e1]
    exact hch
  have low3 : @LT.lt Nat _ (L + 1 + 1 + 1) e.lf := by omega
  refine wpAny_call (c_get_n (un := un) (dp := dp) ok (Nat.lt_of_lt_of_le hdp (by decide)) (Nat.lt_of_lt_of_le hun (by decide)) (by k_asm) (by k_asm) (by k_asm) N3 (by k_asm) (by rfl) C hch1 (by decide +kernel) hws hc34 (by decide +kernel) (by omega) (by omega) ?_ ?_ ?_)
  · intro q hq
    simp only [List.mem_cons] at hq
    rcases hq with rfl | rfl | rfl | hq
    · exact Nat.ne_of_lt low3
    · exact Nat.ne_of_lt hnl
    · exact Nat.ne_of_lt h7
    · exact e8 q hq
  · intro q hq
    simp only [List.mem_cons] at hq
    rcases hq with rfl | rfl | rfl | hq
    · refine neN ?_; dsimp only; omega
    · refine neN ?_; dsimp only; omega
    · refine neN ?_; dsimp only; omega
    · exact g8 q hq
  intro h4 tk4 tt t1' rv nf' hrv F4 N4
  have hnl2 : ln + nlOf 10 + nls (c :: wd) + nlOf 9 = ln + nls (pieceB (mkS (c :: wd), u)) := by
    rw [show pieceB (mkS (c :: wd), u) = 10 :: ((c :: wd) ++ [9]) by simp [pieceB]]
    simp only [nls, List.cons_append, nls_append]
    omega
  rw [hnl2] at N4
  have hrl : rv.length ≤ 200 := by
    have h1 := chs_len hch1
    have h2 := chs_len hrv
    simp only [List.length_cons, List.length_append] at h1
    omega
  replace N4 := news_sub N4 (mem_n3 (l := lexL e (ln + nls (pieceB (mkS (c :: wd), u))) t1' rv nf') (p := (e.pb, W.listOf ([] : List Value).toArray np)) (a := (L + 1 + 1 + 1, o3')) (b := (nl, W.listOf (txts l).toArray nn)) (c := (L + 1 + 1 + 1 + 1 + 1 + 1 + 1, o7)) (r := rest))
  clear N3 N2' N2
  iterate 2 (first | (k_unfold; (try dsimp only)) | (k_end; wrow_close) | walk1 | (dsimp only; walk1) | (leave1; walk_say "STEP leave1"; try dsimp only) | fail "no step")
  rw [bne_self_eq_false]
  iterate 7 (first | (k_unfold; (try dsimp only)) | (k_end; wrow_close) | walk1 | (dsimp only; walk1) | (leave1; walk_say "STEP leave1"; try dsimp only) | fail "no step")
  refine item_in (vs := txts l) (k := (k : Int)) (j := k) (v := .str (mkS (c :: wd)) u) (by k_asm) (by k_mem) rfl (by omega) (by rw [List.getElem?_map, hk]; rfl) ?_
  iterate 2 (first | (k_unfold; (try dsimp only)) | (k_end; wrow_close) | walk1 | (dsimp only; walk1) | (leave1; walk_say "STEP leave1"; try dsimp only) | fail "no step")
  rw [bne_self_eq_false]
  iterate 5 (first | (k_unfold; (try dsimp only)) | (k_end; wrow_close) | walk1 | (dsimp only; walk1) | (leave1; walk_say "STEP leave1"; try dsimp only) | fail "no step")
  exact h k o3' kt h4 _ rv nf' t1' hk6 hk d3 hrv hrl F4 N4
end
end
section
theorem seed39 : True := by
  w_top off
  exact True.intro
section
variable {w : World} {dp un : Nat} {gd : Option (List Code)} {cn : Str} {cs : Scope} {a : Addr} {ccd : Value} {cl : List (Str × Addr)} {outer : List Env} {A₀ : Around} {base h₀ : Heap} {L : Addr} {m : Str → Option Value} {rest : List (Addr × Obj)} {s : Shared}
    {Q E : Value → Shared → Prop} {Q2 : Flow → Shared → Prop} {p : Program} {loose : List Str} {mean : ExcName → Option Value} {mg mb : Str → Option Value}
theorem word_low (x : Int) : ∀ c ∈ wordOf x, c < 1114112 := by
  have := word_ok x
  unfold PyData.strOk at this
  simp only [List.all_toArray, List.all_eq_true] at this
  intro c hc
  exact of_decide_eq_true (this c hc)
theorem cat_ok (xs : List Int) (R : Nat) : ∀ y ∈ (catC (xs.map wordOf) R).map mkS, PyData.strOk y = true := by
  intro y hy
  obtain ⟨z, hz, rfl⟩ := List.mem_map.mp hy
  obtain ⟨k, _, rfl⟩ := List.mem_map.mp hz
  unfold PyData.strOk
  simp only [List.all_toArray, List.all_eq_true]
  intro c hc
  refine decide_eq_true ?_
  unfold dueT at hc
  obtain ⟨q, hq, hcq⟩ := List.mem_flatten.mp hc
  obtain ⟨j, _, rfl⟩ := List.mem_map.mp hq
  have key : ∀ (l : List Int) (i : Nat), ∀ c ∈ (l.map wordOf).getD i [], c < 1114112 := by
    intro l i c hc
    rcases Nat.lt_or_ge i l.length with hi | hi
    · rw [getD_map1 wordOf l i [] 0 hi] at hc
      exact word_low _ c hc
    · rw [List.getD, List.getElem?_eq_none (by simpa using hi)] at hc
      cases hc
  exact key _ _ c hcq
theorem strs_mem {vs : List Value} {ns : List Str} (h : StrsAre vs ns) : ∀ {v : Value}, v ∈ vs → ∃ x t, v = .str x t := by
  induction h with
  | nil => intro v hv; cases hv
  | cons x t _ ih =>
    intro v hv
    rcases List.mem_cons.mp hv with rfl | hv
    · exact ⟨_, _, rfl⟩
    · exact ih hv
theorem tl_cat {dl rl wl : Addr} {e : Lx} {ds : List (Addr × List Value × Nat)} {rs ws cv : List Value} {xs : List Int} {o3 o4 o5 o7 : Obj} {nr nw nd np nf R k : Nat} {t3 kt t1 : Tok} {ln : Int}
    (hdp : dp < 370) (hun : un < 160) (B : Below A₀ base outer h₀) (F : Fr h₀ L s.heap m) (X : (hd.heap_39 w.params).In h₀) (T : Top p loose mean mg mb h₀) (hE : PassesOwn (model Challenge.rw_pg0080_01.row.prog w) (ktrTop dp un gd (Str.ofString "law") lawP.2.1 L a ccd (lawCl L) outer) (lawE L a ccd) E) (hL : @LT.lt Nat _ 121 L) (N : News h₀ L s.heap ((e.pb, W.listOf ([] : List Value).toArray np) :: (lexL e ln t1 cv nf ++ ((wl, W.listOf ws.toArray nw) :: (rl, W.listOf rs.toArray nr) :: (dl, W.listOf (ds.map fun d => Value.ref d.1).toArray nd) :: (L + 1 + 1 + 1, o3) :: (L + 1 + 1 + 1 + 1, o4) :: (L + 1 + 1 + 1 + 1 + 1, o5) :: (L + 1 + 1 + 1 + 1 + 1 + 1 + 1, o7) :: (dsL ds ++ rest)))))
    (ok : e.Ok) (hk0 : k = 0)
    (c3 : isC o3 (some (.int (k : Int) kt))) (c4 : isC o4 (some (.ref rl))) (c5 : isC o5 (some (.ref wl))) (c7 : isC o7 (some (.ref e.x)))
    (hws : StrsAre ws ((xs.map wordOf).map mkS)) (hn3 : 3 ≤ xs.length) (hn5 : xs.length ≤ 5) (hR2 : 2 ≤ R) (hR4 : R ≤ 4) (hdl : ds.length = xs.length) (hda : DueAt ds xs (onesL R) (xs.map wordOf) R)
    (hm1 : m (Str.ofString "rounds") = some (.int (R : Int) t3)) (hm2 : m (Str.ofString "due") = some (.ref dl))
    (hrl : wl ≠ e.pb) (e8 : ∀ p ∈ (rl, W.listOf rs.toArray nr) :: (dl, W.listOf (ds.map fun d => Value.ref d.1).toArray nd) :: (L + 1 + 1 + 1, o3) :: (L + 1 + 1 + 1 + 1, o4) :: (L + 1 + 1 + 1 + 1 + 1, o5) :: (L + 1 + 1 + 1 + 1 + 1 + 1 + 1, o7) :: (dsL ds ++ rest), p.1 ≠ e.pb)
    (h : ∀ m' h' tk' np', (∀ y, y ≠ Str.ofString "deed" → y ≠ Str.ofString "came" → m' y = m y) → Fr h₀ L h' m' → News h₀ L h' ((e.pb, W.listOf ([] : List Value).toArray np') :: (lexL e ln t1 cv nf ++ ((wl, W.listOf ws.toArray nw) :: (rl, W.listOf rs.toArray nr) :: (dl, W.listOf (ds.map fun d => Value.ref d.1).toArray nd) :: (L + 1 + 1 + 1, o3) :: (L + 1 + 1 + 1 + 1, o4) :: (L + 1 + 1 + 1 + 1 + 1, o5) :: (L + 1 + 1 + 1 + 1 + 1 + 1 + 1, o7) :: (dsL ds ++ rest)))) → Q2 .next { s with heap := h', toks := tk' }) :
    wpAny (model Challenge.rw_pg0080_01.row.prog w) (ktrTop dp un gd (Str.ofString "law") lawP.2.1 L a ccd (lawCl L) outer) (execs (lawB.1.drop 2) (lawE L a ccd)) Q2 E s := by
  have ord := ok.ord
  have hw2 : ∀ x ∈ (xs.map wordOf).map mkS, x.length ≤ 2 := by
    intro x hx
    obtain ⟨y, hy, rfl⟩ := List.mem_map.mp hx
    obtain ⟨z, _, rfl⟩ := List.mem_map.mp hy
    have := wordOf_len z
    simpa [Str.length] using this
  have hok := cat_ok xs R
  dsimp only [isC, lawB, List.drop] at *
  have N0 := N
  dsimp only [lexL, lamP, chv, List.cons_append, List.nil_append] at N0
  refine wpAny_execs_cons ?_
  iterate 24 (first | (k_unfold; (try dsimp only)) | (k_end; wrow_close) | walk1 | (dsimp only; walk1) | (leave1; walk_say "STEP leave1"; try dsimp only) | fail "no step")
  refine wpAny_call (c_item (un := un) (dp := dp) (vs := deedL) (k := k) (v := .ref 98) (Nat.lt_of_lt_of_le hdp (by decide)) (Nat.lt_of_lt_of_le hun (by decide)) (by k_asm) (by k_asm) (by k_asm) (by k_asm) (by k_asm) (by rfl) (by subst hk0; rfl) (by omega) ?_)
  intro h1 tk1 F1 N1
  have N2 := news_tail N1
  clear N1
  have hk9 : ¬ ((k : Int) != 0) = true := by
    subst hk0
    simp
  iterate 22 (first | (k_unfold; (try dsimp only)) | (k_end; wrow_close) | walk1 | (dsimp only; walk1) | (leave1; walk_say "STEP leave1"; try dsimp only) | fail "no step")
  rename News _ _ _ _ => N2
  have hvl := strs_len hws
  simp only [List.length_map] at hvl
  refine wpAny_call (c_rounds (un := un) (dp := dp) ok d_cat (by with_unfolding_all rfl) (xs := (xs.map wordOf).map mkS) (k := R) (ln := ln) (t1 := t1) (cv := cv) (nf := nf) (np := np) (rl := wl) (Nat.lt_of_lt_of_le hdp (by decide)) (Nat.lt_of_lt_of_le hun (by decide)) (by k_asm) (by k_asm) (by k_asm) N2 (by k_asm) (by rfl) (strs_vals hws hw2) (by omega) (by omega) hR4 hrl e8 ?_)
  intro h3 tk3 np3 vs' D3 nD hV F3 N3
  rw [law_cat (wds := xs.map wordOf) (by simpa using hn3) (by simpa using hn5) hR2 hR4] at hV
  have hI := vals_strs hV
  have hIl := strs_len hI
  have hcl : ((catC (xs.map wordOf) R).map mkS).length = xs.length := by simp
  replace N3 := news_sub N3 (mem_q8 (l := lexL e ln t1 cv nf))
  iterate 9 (first | (k_unfold; (try dsimp only)) | (k_end; wrow_close) | walk1 | (dsimp only; walk1) | (leave1; walk_say "STEP leave1"; try dsimp only) | fail "no step")
  obtain ⟨LB, hLB⟩ : ∃ LB : List (Addr × Obj), LB = (D3, W.listOf vs'.toArray nD) :: (wl, W.listOf ws.toArray nw) :: (rl, W.listOf rs.toArray nr) :: (dl, W.listOf (ds.map fun d => Value.ref d.1).toArray nd) :: (L + 1 + 1 + 1, o3) :: (L + 1 + 1 + 1 + 1, o4) :: (L + 1 + 1 + 1 + 1 + 1, o5) :: (L + 1 + 1 + 1 + 1 + 1 + 1 + 1, o7) :: (e.pb, W.listOf ([] : List Value).toArray np3) :: (lexL e ln t1 cv nf ++ (dsL ds ++ rest)) := ⟨_, rfl⟩
  k_dflt (refine LCg.CompSrc.ledger (by rfl) (by k_asm) (by k_asm) (by k_mem) (by rw [PySem.sizeLine_eq, List.size_toArray, List.length_map]; omega) ?_; intro g9)
  refine comp_J (fun i ys nw' => nw' = LB ∧ StrsAre ys (((catC (xs.map wordOf) R).map mkS).take i)) ⟨hLB.symm, .nil⟩ ?_ ?_
  · intro i ys news₁ v I oI C oC D2 m₂ h5 tk E' hi hJ hv hC hx F N off ne
    refine wp_name fun Q9 hQ9 => ?_
    obtain ⟨rfl, hys⟩ := hJ
    obtain ⟨ne1, ne2, ne3⟩ := ne
    have hi' : i < ds.length := by simpa using hi
    obtain ⟨d, hd⟩ : ∃ d, ds[i]? = some d := ⟨_, List.getElem?_eq_getElem hi'⟩
    obtain rfl : v = .ref d.1 := by
      rw [List.getElem?_toArray, List.getElem?_map, hd] at hv
      exact (Option.some.inj hv).symm
    rw [hLB] at N
    iterate 3 (first | (k_unfold; (try dsimp only)) | (k_end; wrow_close) | walk1 | (dsimp only; walk1) | (leave1; walk_say "STEP leave1"; try dsimp only) | fail "no step")
    obtain ⟨u0, u1, u2, u3, u4, u5, hdv⟩ := hda i d hd
    have htv : d.2.1[k]? = some (.str (mkS (dueT (xs.map wordOf) (onesL R) xs.length i)) u0) := by
      subst hk0
      rw [hdv]
      rfl
    refine item_in (vs := d.2.1) (by k_asm) (List.mem_cons_of_mem _ (List.mem_cons_of_mem _ (List.mem_cons_of_mem _ (List.mem_cons_of_mem _ (List.mem_cons_of_mem _ (List.mem_cons_of_mem _ (List.mem_cons_of_mem _ (List.mem_cons_of_mem _ (List.mem_cons_of_mem _ (List.mem_cons_of_mem _ (List.mem_cons_of_mem _ (List.mem_cons_of_mem _ (List.mem_append_right _ (List.mem_append_left _ (dsL_mem hd))))))))))))))) rfl (by omega) htv ?_
    rw [← hLB] at N
    refine hQ9 _ _ ?_
    refine LCg.CompEnd.intro F N news₁ (fun q hq => hq) off (.inr ⟨_, by rw [hLB]; k_mem, rfl, _, rfl⟩) ⟨rfl, ?_⟩
    have hce : ((catC (xs.map wordOf) R).map mkS)[i]? = some (mkS (dueT (xs.map wordOf) (onesL R) xs.length i)) := by
      rw [List.getElem?_map, List.getElem?_map, List.getElem?_range (by rw [List.length_map]; omega), List.length_map]
      rfl
    rw [List.take_add_one, hce]
    exact strs_snoc hys
  · intro ys news₁ hJ
    obtain ⟨rfl, hys⟩ := hJ
    unfold LCg.FinE
    intro SD h6 tk6 F6 N6 o1'
    rw [hLB] at N6
    rw [show (ds.map fun d => Value.ref d.1).toArray.size = ((catC (xs.map wordOf) R).map mkS).length by rw [hcl]; simpa using hdl, List.take_length] at hys
    refine ne_strs (News.isList (by k_asm) (by k_mem)) (News.isList (by k_asm) (by k_mem)) hI hys hok (by show un + 64 < 9900; omega) ?_
    iterate 4 (first | (k_unfold; (try dsimp only)) | (k_end; wrow_close) | walk1 | (dsimp only; walk1) | (leave1; walk_say "STEP leave1"; try dsimp only) | fail "no step")
    k_dflt (refine LCt.ListComp_T (F₀ := by k_asm) (by with_unfolding_all rfl) (by decide) (by rfl) (by decide) (by rfl) ?_)
    iterate 1 (first | (k_unfold; (try dsimp only)) | (k_end; wrow_close) | walk1 | (dsimp only; walk1) | (leave1; walk_say "STEP leave1"; try dsimp only) | fail "no step")
    k_dflt (refine LCt.CompSrcT.ledger (by rfl) (by k_asm) (by k_asm) (by k_mem) (by rw [PySem.sizeLine_eq, List.size_toArray]; omega) ?_; intro g10)
    obtain ⟨LC, hLC⟩ : ∃ LC : List (Addr × Obj), LC = (SD, LCg.lst ys) :: (D3, W.listOf vs'.toArray nD) :: (wl, W.listOf ws.toArray nw) :: (rl, W.listOf rs.toArray nr) :: (dl, W.listOf (ds.map fun d => Value.ref d.1).toArray nd) :: (L + 1 + 1 + 1, o3) :: (L + 1 + 1 + 1 + 1, o4) :: (L + 1 + 1 + 1 + 1 + 1, o5) :: (L + 1 + 1 + 1 + 1 + 1 + 1 + 1, o7) :: (e.pb, W.listOf ([] : List Value).toArray np3) :: (lexL e ln t1 cv nf ++ (dsL ds ++ rest)) := ⟨_, rfl⟩
    refine comp_JT (fun i ys2 nw' => nw' = LC ∧ ys2 = []) ⟨hLC.symm, rfl⟩ ?_ ?_
    · intro i ys2 news₁ v I oI C oC D2 m₂ h5 tk E' hi hJ hv hC hx F N off ne
      obtain ⟨rfl, rfl⟩ := hJ
      obtain ⟨ne1, ne2, ne3⟩ := ne
      obtain ⟨x0, tx, rfl⟩ : ∃ x t, v = .str x t := by
        exact strs_mem hI (by simpa using Array.mem_of_getElem? hv)
      iterate 12 (first | (k_unfold; (try dsimp only)) | (k_end; wrow_close) | walk1 | (dsimp only; walk1) | (leave1; walk_say "STEP leave1"; try dsimp only) | fail "no step")
      exact LCg.CompEnd.intro F N news₁ (fun q hq => hq) off (.inr ⟨_, by rw [hLC]; k_mem, rfl, _, rfl⟩) ⟨rfl, trivial⟩
    · intro ys2 news₁ hJ
      obtain ⟨rfl, rfl⟩ := hJ
      unfold LCg.FinE
      intro ED h7 tk7 F7 N7 o2'
      rw [hLC] at N7
      iterate 7 (first | (k_unfold; (try dsimp only)) | (k_end; wrow_close) | walk1 | (dsimp only; walk1) | (leave1; walk_say "STEP leave1"; try dsimp only) | fail "no step")
      refine h _ _ _ np3 ?_ F7 (news_sub N7 (mem_q9 (l := lexL e ln t1 cv nf)))
      intro y hy1 hy2
      exact (if_neg hy2).trans (if_neg hy1)
end
end
section
theorem seed40 : True := by
  w_top off
  exact True.intro
section
variable {w : World} {dp un : Nat} {gd : Option (List Code)} {cn : Str} {cs : Scope} {a : Addr} {ccd : Value} {cl : List (Str × Addr)} {outer : List Env} {A₀ : Around} {base h₀ : Heap} {L : Addr} {m : Str → Option Value} {rest : List (Addr × Obj)} {s : Shared}
    {Q E : Value → Shared → Prop} {Q2 : Flow → Shared → Prop} {p : Program} {loose : List Str} {mean : ExcName → Option Value} {mg mb : Str → Option Value}
abbrev lpB (tl nl rl wl dl : Addr) (Z l : List (Str × Tok)) (rs ws : List Value) (ds : List (Addr × List Value × Nat)) (nt nn nr nw nd : Nat) (L : Addr) (o4 o5 o7 : Obj) (rest : List (Addr × Obj)) : List (Addr × Obj) :=
  (tl, W.listOf (txts Z).toArray nt) :: (nl, W.listOf (txts l).toArray nn) :: (rl, W.listOf rs.toArray nr) :: (wl, W.listOf ws.toArray nw) :: (dl, W.listOf (ds.map fun d => Value.ref d.1).toArray nd) ::
    (L + 1 + 1 + 1 + 1, o4) :: (L + 1 + 1 + 1 + 1 + 1, o5) :: (L + 1 + 1 + 1 + 1 + 1 + 1 + 1, o7) :: (dsL ds ++ rest)
theorem flatB_drop {Z : List (Str × Tok)} {i : Nat} {q : Str × Tok} (h : Z[i]? = some q) : flatB (Z.drop i) = pieceB q ++ flatB (Z.drop (i + 1)) := by
  have hi : i < Z.length := (List.getElem?_eq_some_iff.mp h).1
  have hx : Z[i] = q := (List.getElem?_eq_some_iff.mp h).2
  rw [List.drop_eq_getElem_cons hi, hx]
  simp [flatB]
theorem flatB_take {Z : List (Str × Tok)} {i : Nat} {q : Str × Tok} (h : Z[i]? = some q) : flatB (Z.take (i + 1)) = flatB (Z.take i) ++ pieceB q := by
  unfold flatB
  rw [List.take_add_one, h, List.map_append, List.flatten_append]
  simp
theorem lex_off {e : Lx} (ok : e.Ok) {L : Addr} (h7 : @LT.lt Nat _ L e.lf) {ln : Int} {t1 : Tok} {cv : List Value} {nf : Nat} : ∀ p ∈ lexL e ln t1 cv nf, @LT.lt Nat _ L p.1 ∧ @LT.lt Nat _ p.1 e.pb := by
  obtain ⟨b1, b2, b3, b4, b5, b6, b7, b8⟩ := ok.ord
  have a2 := Nat.lt_trans h7 b1
  have a3 := Nat.lt_trans a2 b2
  have a4 := Nat.lt_trans a3 b3
  have a5 := Nat.lt_trans a4 b4
  have a6 := Nat.lt_trans a5 b5
  have a7 := Nat.lt_trans a6 b6
  have a8 := Nat.lt_trans a7 b7
  have c7 := Nat.lt_trans b7 b8
  have c6 := Nat.lt_trans b6 c7
  have c5 := Nat.lt_trans b5 c6
  have c4 := Nat.lt_trans b4 c5
  have c3 := Nat.lt_trans b3 c4
  have c2 := Nat.lt_trans b2 c3
  have c1 := Nat.lt_trans b1 c2
  intro q hq
  simp only [lexL, List.mem_cons, List.not_mem_nil, or_false] at hq
  rcases hq with rfl | rfl | rfl | rfl | rfl | rfl | rfl | rfl
  · exact ⟨h7, c1⟩
  · exact ⟨a7, c7⟩
  · exact ⟨a8, b8⟩
  · exact ⟨a4, c4⟩
  · exact ⟨a3, c3⟩
  · exact ⟨a6, c6⟩
  · exact ⟨a5, c5⟩
  · exact ⟨a2, c2⟩
theorem mem_L1 {α : Type} {I p c3 t n r w d c4 c5 c7 : α} {l y : List α} : ∀ q ∈ c3 :: n :: c7 :: p :: (l ++ (I :: t :: r :: w :: d :: c4 :: c5 :: y)), q ∈ I :: p :: (l ++ (c3 :: t :: n :: r :: w :: d :: c4 :: c5 :: c7 :: y)) := by
  ((repeat' (first | refine List.forall_mem_cons.mpr ⟨?_, ?_⟩ | refine List.forall_mem_append.mpr ⟨?_, ?_⟩)) <;> first | ((repeat (first | exact List.mem_cons_self | refine List.mem_cons_of_mem _ ?_ | refine List.mem_append_right _ ?_)); done) | exact List.forall_mem_nil _ | (intro q hq; (repeat (first | exact hq | exact List.mem_append_left _ hq | refine List.mem_cons_of_mem _ ?_ | refine List.mem_append_right _ ?_)); done))
theorem mem_L2 {α : Type} {I p c3 t n r w d c4 c5 c7 : α} {l x y : List α} : ∀ q ∈ p :: (l ++ (r :: w :: d :: c3 :: c4 :: c5 :: c7 :: (x ++ (I :: t :: n :: y)))), q ∈ c3 :: n :: c7 :: p :: (l ++ (I :: t :: r :: w :: d :: c4 :: c5 :: (x ++ y))) := by
  ((repeat' (first | refine List.forall_mem_cons.mpr ⟨?_, ?_⟩ | refine List.forall_mem_append.mpr ⟨?_, ?_⟩)) <;> first | ((repeat (first | exact List.mem_cons_self | refine List.mem_cons_of_mem _ ?_ | refine List.mem_append_right _ ?_)); done) | exact List.forall_mem_nil _ | (intro q hq; (repeat (first | exact hq | exact List.mem_append_left _ hq | refine List.mem_cons_of_mem _ ?_ | refine List.mem_append_right _ ?_)); done))
theorem mem_L3 {α : Type} {I p c3 t n r w d c4 c5 c7 : α} {l x y : List α} : ∀ q ∈ I :: p :: (l ++ (c3 :: t :: n :: r :: w :: d :: c4 :: c5 :: c7 :: (x ++ y))), q ∈ p :: (l ++ (r :: w :: d :: c3 :: c4 :: c5 :: c7 :: (x ++ (I :: t :: n :: y)))) := by
  ((repeat' (first | refine List.forall_mem_cons.mpr ⟨?_, ?_⟩ | refine List.forall_mem_append.mpr ⟨?_, ?_⟩)) <;> first | ((repeat (first | exact List.mem_cons_self | refine List.mem_cons_of_mem _ ?_ | refine List.mem_append_right _ ?_)); done) | exact List.forall_mem_nil _ | (intro q hq; (repeat (first | exact hq | exact List.mem_append_left _ hq | refine List.mem_cons_of_mem _ ?_ | refine List.mem_append_right _ ?_)); done))
theorem mem_L2w {α : Type} {I p c3 t n r w d c4 c5 c7 : α} {l x y : List α} : ∀ q ∈ p :: (l ++ (w :: r :: d :: c3 :: c4 :: c5 :: c7 :: (x ++ (I :: t :: n :: y)))), q ∈ c3 :: n :: c7 :: p :: (l ++ (I :: t :: r :: w :: d :: c4 :: c5 :: (x ++ y))) := by
  ((repeat' (first | refine List.forall_mem_cons.mpr ⟨?_, ?_⟩ | refine List.forall_mem_append.mpr ⟨?_, ?_⟩)) <;> first | ((repeat (first | exact List.mem_cons_self | refine List.mem_cons_of_mem _ ?_ | refine List.mem_append_right _ ?_)); done) | exact List.forall_mem_nil _ | (intro q hq; (repeat (first | exact hq | exact List.mem_append_left _ hq | refine List.mem_cons_of_mem _ ?_ | refine List.mem_append_right _ ?_)); done))
theorem mem_L3w {α : Type} {I p c3 t n r w d c4 c5 c7 : α} {l x y : List α} : ∀ q ∈ I :: p :: (l ++ (c3 :: t :: n :: r :: w :: d :: c4 :: c5 :: c7 :: (x ++ y))), q ∈ p :: (l ++ (w :: r :: d :: c3 :: c4 :: c5 :: c7 :: (x ++ (I :: t :: n :: y)))) := by
  ((repeat' (first | refine List.forall_mem_cons.mpr ⟨?_, ?_⟩ | refine List.forall_mem_append.mpr ⟨?_, ?_⟩)) <;> first | ((repeat (first | exact List.mem_cons_self | refine List.mem_cons_of_mem _ ?_ | refine List.mem_append_right _ ?_)); done) | exact List.forall_mem_nil _ | (intro q hq; (repeat (first | exact hq | exact List.mem_append_left _ hq | refine List.mem_cons_of_mem _ ?_ | refine List.mem_append_right _ ?_)); done))
theorem off_l1 {α : Type} {P : α → Prop} {I p t n r w d c4 c5 c7 : α} {l x y : List α} (h : ∀ q ∈ t :: n :: r :: w :: d :: c4 :: c5 :: c7 :: (x ++ y), P q) (hI : P I) (hp : P p) (hl : ∀ q ∈ l, P q) : ∀ q ∈ n :: c7 :: p :: (l ++ (I :: t :: r :: w :: d :: c4 :: c5 :: (x ++ y))), P q := by
  simp only [List.forall_mem_cons, List.forall_mem_append] at *
  obtain ⟨h1, h2, h3, h4, h5, h6, h7, h8, h9, h10⟩ := h
  exact ⟨h2, h8, hp, hl, hI, h1, h3, h4, h5, h6, h7, h9, h10⟩
theorem off_l2 {α : Type} {P : α → Prop} {I t n r w d c4 c5 c7 : α} {x y : List α} (h : ∀ q ∈ t :: n :: r :: w :: d :: c4 :: c5 :: c7 :: (x ++ y), P q) (hI : P I) : ∀ q ∈ I :: t :: r :: w :: d :: c4 :: c5 :: (x ++ y), P q := by
  simp only [List.forall_mem_cons, List.forall_mem_append] at *
  obtain ⟨h1, h2, h3, h4, h5, h6, h7, h8, h9, h10⟩ := h
  exact ⟨hI, h1, h3, h4, h5, h6, h7, h9, h10⟩
theorem off_l3 {α : Type} {P : α → Prop} {I t n r w d c3 c4 c5 c7 : α} {x y : List α} (h : ∀ q ∈ t :: n :: r :: w :: d :: c4 :: c5 :: c7 :: (x ++ y), P q) (hI : P I) (h3 : P c3) : P r ∧ P w ∧ (∀ q ∈ w :: d :: c3 :: c4 :: c5 :: c7 :: (x ++ (I :: t :: n :: y)), P q) ∧ (∀ q ∈ r :: d :: c3 :: c4 :: c5 :: c7 :: (x ++ (I :: t :: n :: y)), P q) := by
  simp only [List.forall_mem_cons, List.forall_mem_append] at *
  obtain ⟨h1, h2, h4, h5, h6, h7, h8, h9, h10, h11⟩ := h
  exact ⟨h4, h5, ⟨h5, h6, h3, h7, h8, h9, h10, hI, h1, h2, h11⟩, h4, h6, h3, h7, h8, h9, h10, hI, h1, h2, h11⟩
theorem st_A11 {tl nl rl wl dl : Addr} {l Z : List (Str × Tok)} {rs ws cv : List Value} {xs : List Int} {ds : List (Addr × List Value × Nat)} {e : Lx} {o3 o4 o5 o7 : Obj} {nt nn nr nw nd np nf R : Nat} {t1 t3 : Tok} {ln : Int}
    (hdp : dp < 370) (hun : un < 160) (B : Below A₀ base outer h₀) (F : Fr h₀ L s.heap m) (X : (hd.heap_39 w.params).In h₀) (T : Top p loose mean mg mb h₀) (hE : PassesOwn (model Challenge.rw_pg0080_01.row.prog w) (ktrTop dp un gd (Str.ofString "law") lawP.2.1 L a ccd (lawCl L) outer) (lawE L a ccd) E) (hL : @LT.lt Nat _ 121 L) (C : CodeHd base 125 121) (N : News h₀ L s.heap ((e.pb, W.listOf ([] : List Value).toArray np) :: (lexL e ln t1 cv nf ++ ((L + 1 + 1 + 1, o3) :: lpB tl nl rl wl dl Z l rs ws ds nt nn nr nw nd L o4 o5 o7 rest))))
    (ok : e.Ok) (hl : Nm l) (hZ : ∀ q ∈ Z, q ∈ l) (hnl : @LT.lt Nat _ nl e.lf) (h7 : @LT.lt Nat _ (L + 1 + 1 + 1 + 1 + 1 + 1 + 1) e.lf)
    (fx : ∀ p ∈ lpB tl nl rl wl dl Z l rs ws ds nt nn nr nw nd L o4 o5 o7 rest, p.1 ≠ e.lf ∧ p.1 ≠ e.dx ∧ p.1 ≠ e.pb ∧ p.1 ≠ L + 1 + 1 + 1)
    {v3 : Option Value} (c3 : isC o3 v3) (c4 : isC o4 (some (.ref rl))) (c5 : isC o5 (some (.ref wl))) (c7 : isC o7 (some (.ref e.x)))
    (hch : Chs cv (flatB Z)) (hcl : cv.length ≤ 200) (htk : 0 < s.toks)
    (hrs : IntsAre rs xs) (hws : StrsAre ws ((xs.map wordOf).map mkS)) (hn3 : 3 ≤ xs.length) (hn5 : xs.length ≤ 5) (hR2 : 2 ≤ R) (hR4 : R ≤ 4) (hdl : ds.length = xs.length) (hda : DueAt ds xs (onesL R) (xs.map wordOf) R)
    (hm1 : m (Str.ofString "rounds") = some (.int (R : Int) t3)) (hm2 : m (Str.ofString "due") = some (.ref dl)) (hm3 : m (Str.ofString "turned") = some (.ref tl)) (hm4 : m (Str.ofString "names") = some (.ref nl))
    (h : ∀ m' h' tk' np' nf' t1' o3', (∀ y, y ≠ Str.ofString "name" → y ≠ Str.ofString "deed" → y ≠ Str.ofString "came" → m' y = m y) → 0 < tk' → Fr h₀ L h' m' →
      News h₀ L h' ((e.pb, W.listOf ([] : List Value).toArray np') :: (lexL e (ln + nls (flatB Z)) t1' [] nf' ++ ((L + 1 + 1 + 1, o3') :: lpB tl nl rl wl dl Z l rs ws ds nt nn nr nw nd L o4 o5 o7 rest))) →
      wpAny (model Challenge.rw_pg0080_01.row.prog w) (ktrTop dp un gd (Str.ofString "law") lawP.2.1 L a ccd (lawCl L) outer) (execs (lawP.1.drop 13) (lawE L a ccd)) Q2 E { s with heap := h', toks := tk' }) :
    wpAny (model Challenge.rw_pg0080_01.row.prog w) (ktrTop dp un gd (Str.ofString "law") lawP.2.1 L a ccd (lawCl L) outer) (execs (lawP.1.drop 12) (lawE L a ccd)) Q2 E s := by
  have ord := ok.ord
  dsimp only [isC, lawP, List.drop] at *
  refine wpAny_execs_cons ?_
  refine wpAny_tok1 (n := 1) htk ?_
  refine for_it ?_ (hE := hE)
  iterate 1 (first | (k_unfold; (try dsimp only)) | (k_end; wrow_close) | walk1 | (dsimp only; walk1) | (leave1; walk_say "STEP leave1"; try dsimp only) | fail "no step")
  refine loop_list (its := (txts Z).toArray) (fun i m₁ nw' => ∃ cv nf t1 np o3 v3, nw' = (e.pb, W.listOf ([] : List Value).toArray np) :: (lexL e (ln + nls (flatB (Z.take i))) t1 cv nf ++ ((L + 1 + 1 + 1, o3) :: lpB tl nl rl wl dl Z l rs ws ds nt nn nr nw nd L o4 o5 o7 rest)) ∧ o3.data = .cell v3 ∧ Chs cv (flatB (Z.drop i)) ∧ cv.length ≤ 200 ∧ (∀ y, y ≠ Str.ofString "name" → y ≠ Str.ofString "deed" → y ≠ Str.ofString "came" → m₁ y = m y))
    (by rfl) (.inr ⟨_, List.mem_cons_of_mem _ (List.mem_append_right _ (List.mem_cons_of_mem _ List.mem_cons_self)), rfl, _, rfl⟩) (by k_asm) (by k_asm) ⟨cv, nf, t1, np, o3, v3, by rw [show nls (flatB (List.take 0 Z)) = 0 from rfl, Int.add_zero], c3, hch, hcl, fun _ _ _ _ => rfl⟩ ?_ ?_
  · intro i v I m₁ nw oI h tk hv hJ hS F N off
    refine wp_name fun Q9 hQ9 => ?_
    obtain ⟨cv, nf, t1, np, o3, v3, rfl, c3, hch, hcl, hmm⟩ := hJ
    have hi' : i < Z.length := by
      have := (Array.getElem?_eq_some_iff.mp hv).1
      simpa using this
    obtain ⟨⟨y, u⟩, hq⟩ : ∃ q, Z[i]? = some q := ⟨_, List.getElem?_eq_getElem hi'⟩
    obtain rfl : v = .str y u := by
      rw [List.getElem?_toArray, List.getElem?_map, hq] at hv
      exact (Option.some.inj hv).symm
    have hql : (y, u) ∈ l := hZ _ (List.mem_of_getElem? hq)
    rw [flatB_drop hq] at hch
    have N1 := news_sub N (mem_L1 (l := lexL e (ln + nls (flatB (Z.take i))) t1 cv nf) (y := dsL ds ++ rest))
    have offI : ∀ q ∈ lpB tl nl rl wl dl Z l rs ws ds nt nn nr nw nd L o4 o5 o7 rest, q.1 ≠ I := fun q hq => off q (List.mem_cons_of_mem _ (List.mem_append_right _ (List.mem_cons_of_mem _ hq)))
    have offX : ∀ q ∈ lexL e (ln + nls (flatB (Z.take i))) t1 cv nf, q.1 ≠ I := fun q hq => off q (List.mem_cons_of_mem _ (List.mem_append_left _ hq))
    have offP : e.pb ≠ I := off _ List.mem_cons_self
    have off3 : L + 1 + 1 + 1 ≠ I := off (L + 1 + 1 + 1, o3) (List.mem_cons_of_mem _ (List.mem_append_right _ List.mem_cons_self))
    have hlow := lex_off ok h7 (ln := ln + nls (flatB (Z.take i))) (t1 := t1) (cv := cv) (nf := nf)
    have ne7 : ∀ z : String, Str.ofString z ≠ Str.ofString "name" → Str.ofString z ≠ Str.ofString "deed" → Str.ofString z ≠ Str.ofString "came" → (fun y₁ => if y₁ = Str.ofString "name" then some (Value.str y u) else m₁ y₁) (Str.ofString z) = m (Str.ofString z) := fun z h1 h2 h3 => (if_neg h1).trans (hmm _ h1 h2 h3)
    have hpb : @LT.lt Nat _ (L + 1 + 1 + 1) e.pb := by omega
    have hIlf : e.lf ≠ I := offX (e.lf, W.listOf cv.toArray nf) List.mem_cons_self
    have hIdx : e.dx ≠ I := offX (e.dx, dictOf (lexD e.H e.k (ln + nls (flatB (Z.take i))) t1 (.ref e.st) e.ws e.pb) 4) (List.mem_cons_of_mem _ List.mem_cons_self)
    refine t_A (y := y) (u := u) (l := l) (rc := flatB (Z.drop (i + 1))) hdp hun B F X T hE hL N1 C hl hql (if_pos rfl) ((ne7 _ (by decide) (by decide) (by decide)).trans hm4) ok c7 c3 hch hcl ?_ h7 hnl ?_ ?_ ?_
    · exact off_l1 (P := fun q : Addr × Obj => q.1 ≠ L + 1 + 1 + 1) (I := (I, oI)) (p := (e.pb, W.listOf ([] : List Value).toArray np)) (fun q hq => (fx q hq).2.2.2) (Ne.symm off3) (Ne.symm (Nat.ne_of_lt hpb)) (fun q hq => by
        have := (hlow q hq).1
        refine neN ?_
        omega)
    · exact off_l2 (P := fun q : Addr × Obj => q.1 ≠ e.lf) (I := (I, oI)) (fun q hq => (fx q hq).1) (Ne.symm hIlf)
    · exact off_l2 (P := fun q : Addr × Obj => q.1 ≠ e.dx) (I := (I, oI)) (fun q hq => (fx q hq).2.1) (Ne.symm hIdx)
    intro k o3' kt h6 tk6 cv6 nf6 t6 hk6 hlk d3 hch6 hcl6 F6 N6
    rw [Int.add_assoc, ← nls_append, ← flatB_take hq] at N6
    obtain ⟨e1, e2, e3, e4⟩ := off_l3 (P := fun q : Addr × Obj => q.1 ≠ e.pb) (c3 := (L + 1 + 1 + 1, o3')) (fun q hq => (fx q hq).2.2.1) (I := (I, oI)) (Ne.symm offP) (Nat.ne_of_lt hpb)
    have offN : ∀ q ∈ (e.pb, W.listOf ([] : List Value).toArray np) :: (lexL e (ln + nls (flatB (Z.take (i + 1)))) t6 cv6 nf6 ++ ((L + 1 + 1 + 1, o3') :: lpB tl nl rl wl dl Z l rs ws ds nt nn nr nw nd L o4 o5 o7 rest)), q.1 ≠ I := keys_ne off rfl
    by_cases hk0 : k = 0
    · have N7 := news_sub N6 (mem_L2w (l := lexL e (ln + nls (flatB (Z.take (i + 1)))) t6 cv6 nf6) (x := dsL ds) (y := rest))
      refine tl_cat (rest := _ :: _ :: _ :: rest) hdp hun B F6 X T hE hL N7 ok hk0 d3 c4 c5 c7 hws hn3 hn5 hR2 hR4 hdl hda ((ne7 _ (by decide) (by decide) (by decide)).trans hm1) ((ne7 _ (by decide) (by decide) (by decide)).trans hm2) e2 e4 ?_
      intro m' h8 tk8 np8 hm8 F8 N8
      refine hQ9 _ _ ?_
      refine ⟨h8, tk8, m', _, rfl, F8, news_sub N8 (mem_L3w (l := lexL e (ln + nls (flatB (Z.take (i + 1)))) t6 cv6 nf6) (x := dsL ds) (y := rest)), keys_ne offN rfl, .inr ⟨_, List.mem_cons_of_mem _ (List.mem_append_right _ (List.mem_cons_of_mem _ List.mem_cons_self)), rfl, _, rfl⟩, cv6, nf6, t6, np8, o3', _, rfl, d3, hch6, hcl6, ?_⟩
      intro z hz1 hz2 hz3
      exact (hm8 z hz2 hz3).trans ((if_neg hz1).trans (hmm z hz1 hz2 hz3))
    · obtain ⟨f, op, proj, D⟩ := int_deed (w := w) k (by omega) hk6
      have N7 := news_sub N6 (mem_L2 (l := lexL e (ln + nls (flatB (Z.take (i + 1)))) t6 cv6 nf6) (x := dsL ds) (y := rest))
      refine tl_int (rest := _ :: _ :: _ :: rest) hdp hun B F6 X T hE hL N7 ok D (by omega) hk6 d3 c4 c5 c7 hrs hn3 hn5 hR2 hR4 hdl hda ((ne7 _ (by decide) (by decide) (by decide)).trans hm1) ((ne7 _ (by decide) (by decide) (by decide)).trans hm2) e1 e3 ?_
      intro m' h8 tk8 np8 hm8 F8 N8
      refine hQ9 _ _ ?_
      refine ⟨h8, tk8, m', _, rfl, F8, news_sub N8 (mem_L3 (l := lexL e (ln + nls (flatB (Z.take (i + 1)))) t6 cv6 nf6) (x := dsL ds) (y := rest)), keys_ne offN rfl, .inr ⟨_, List.mem_cons_of_mem _ (List.mem_append_right _ (List.mem_cons_of_mem _ List.mem_cons_self)), rfl, _, rfl⟩, cv6, nf6, t6, np8, o3', _, rfl, d3, hch6, hcl6, ?_⟩
      intro z hz1 hz2 hz3
      exact (hm8 z hz2 hz3).trans ((if_neg hz1).trans (hmm z hz1 hz2 hz3))
  · intro m₁ nw' h4 tk hJ F N
    obtain ⟨cv', nf', t1', np', o3', v3', rfl, c3', hch', hcl', hmm⟩ := hJ
    dsimp only
    intro htk
    rw [show (txts Z).toArray.size = Z.length by simp, List.take_length] at N
    rw [show (txts Z).toArray.size = Z.length by simp, List.drop_length] at hch'
    obtain rfl : cv' = [] := by cases hch'; rfl
    exact h m₁ h4 _ np' nf' t1' o3' hmm htk F N
end
end
section
theorem seed41 : True := by
  w_top off
  exact True.intro
section
variable {w : World} {dp un : Nat} {gd : Option (List Code)} {cn : Str} {cs : Scope} {a : Addr} {ccd : Value} {cl : List (Str × Addr)} {outer : List Env} {A₀ : Around} {base h₀ : Heap} {L : Addr} {m : Str → Option Value} {rest : List (Addr × Obj)} {s : Shared}
    {Q E : Value → Shared → Prop} {Q2 : Flow → Shared → Prop} {p : Program} {loose : List Str} {mean : ExcName → Option Value} {mg mb : Str → Option Value}
theorem flat_le {K : Nat} : ∀ l : List (List Nat), (∀ x ∈ l, x.length ≤ K) → l.flatten.length ≤ K * l.length
  | [], _ => Nat.zero_le _
  | x :: l, h => by
    have h1 := h x List.mem_cons_self
    have h2 := flat_le l fun y hy => h y (List.mem_cons_of_mem _ hy)
    simp only [List.flatten_cons, List.length_append, List.length_cons, Nat.mul_add, Nat.mul_one]
    omega
theorem encW_le (w : List Nat) : (encW w).length ≤ 2 * w.length := by
  induction w with
  | nil => exact Nat.zero_le _
  | cons c w ih =>
    simp only [encW, List.length_append, List.length_cons]
    split <;> simp <;> omega
theorem flatA_len (xs : List Int) : (flatA xs).length ≤ 7 * xs.length := by
  have := flat_le (K := 7) (xs.map pieceA) (by
    intro x hx
    obtain ⟨y, _, rfl⟩ := List.mem_map.mp hx
    have h1 := encW_le (wordOf y)
    have h2 := wordOf_len y
    simp only [pieceA, List.length_cons, List.length_append, List.length_nil]
    omega)
  rwa [List.length_map] at this
theorem flatB_len {Z : List (Str × Tok)} (h : ∀ q ∈ Z, q.1.length ≤ 6) : (flatB Z).length ≤ 8 * Z.length := by
  have := flat_le (K := 8) (Z.map pieceB) (by
    intro x hx
    obtain ⟨y, hy, rfl⟩ := List.mem_map.mp hx
    have h1 := h y hy
    simp [Str.length, pieceB] at h1 ⊢
    omega)
  rwa [List.length_map] at this
theorem textL_eq (xs : List Int) (Z : List (Str × Tok)) : textL xs Z = flatA xs ++ flatB Z := rfl
theorem mem_j9 {α : Type} {p b t n w r c1 c2 c3 c4 c5 c6 c7 c8 z : α} {l : List α} : ∀ q ∈ c8 :: p :: (l ++ [b, t, n, w, r, c7, c6, c5, c4, c3, c2, c1, z]), q ∈ p :: (l ++ (b :: t :: n :: w :: r :: [c8, c7, c6, c5, c4, c3, c2, c1, z])) := by
  ((repeat' (first | refine List.forall_mem_cons.mpr ⟨?_, ?_⟩ | refine List.forall_mem_append.mpr ⟨?_, ?_⟩)) <;> first | ((repeat (first | exact List.mem_cons_self | refine List.mem_cons_of_mem _ ?_ | refine List.mem_append_right _ ?_)); done) | exact List.forall_mem_nil _ | (intro q hq; (repeat (first | exact hq | exact List.mem_append_left _ hq | refine List.mem_cons_of_mem _ ?_ | refine List.mem_append_right _ ?_)); done))
theorem mem_j10 {α : Type} {p b t n w r o c1 c2 c3 c4 c5 c6 c7 c8 z : α} {l : List α} : ∀ q ∈ r :: w :: o :: c2 :: c4 :: c5 :: c8 :: p :: (l ++ [b, t, n, c7, c6, c3, c1, z]), q ∈ o :: c8 :: p :: (l ++ [b, t, n, w, r, c7, c6, c5, c4, c3, c2, c1, z]) := by
  ((repeat' (first | refine List.forall_mem_cons.mpr ⟨?_, ?_⟩ | refine List.forall_mem_append.mpr ⟨?_, ?_⟩)) <;> first | ((repeat (first | exact List.mem_cons_self | refine List.mem_cons_of_mem _ ?_ | refine List.mem_append_right _ ?_)); done) | exact List.forall_mem_nil _ | (intro q hq; (repeat (first | exact hq | exact List.mem_append_left _ hq | refine List.mem_cons_of_mem _ ?_ | refine List.mem_append_right _ ?_)); done))
theorem mem_j11 {α : Type} {p b t n w r o d c1 c2 c3 c4 c5 c6 c7 c8 z : α} {l y : List α} : ∀ q ∈ p :: (l ++ (c3 :: t :: n :: r :: w :: d :: c4 :: c5 :: c7 :: (y ++ [o, b, c2, c8, c6, c1, z]))), q ∈ d :: (y ++ (r :: w :: o :: c2 :: c4 :: c5 :: c8 :: p :: (l ++ [b, t, n, c7, c6, c3, c1, z]))) := by
  ((repeat' (first | refine List.forall_mem_cons.mpr ⟨?_, ?_⟩ | refine List.forall_mem_append.mpr ⟨?_, ?_⟩)) <;> first | ((repeat (first | exact List.mem_cons_self | refine List.mem_cons_of_mem _ ?_ | refine List.mem_append_right _ ?_)); done) | exact List.forall_mem_nil _ | (intro q hq; (repeat (first | exact hq | exact List.mem_append_left _ hq | refine List.mem_cons_of_mem _ ?_ | refine List.mem_append_right _ ?_)); done))
theorem mem_j12 {α : Type} {p t n w r d c3 c4 c5 c7 : α} {l y : List α} : ∀ q ∈ c7 :: p :: (l ++ (c3 :: t :: n :: r :: w :: d :: c4 :: c5 :: y)), q ∈ p :: (l ++ (c3 :: t :: n :: r :: w :: d :: c4 :: c5 :: c7 :: y)) := by
  ((repeat' (first | refine List.forall_mem_cons.mpr ⟨?_, ?_⟩ | refine List.forall_mem_append.mpr ⟨?_, ?_⟩)) <;> first | ((repeat (first | exact List.mem_cons_self | refine List.mem_cons_of_mem _ ?_ | refine List.mem_append_right _ ?_)); done) | exact List.forall_mem_nil _ | (intro q hq; (repeat (first | exact hq | exact List.mem_append_left _ hq | refine List.mem_cons_of_mem _ ?_ | refine List.mem_append_right _ ?_)); done))
theorem mem_j1 {α : Type} {a b c d e f g : α} {y x : List α} {q : α} (hq : q ∈ x) : q ∈ y ++ (a :: b :: c :: d :: e :: f :: g :: x) := by
  simp only [List.mem_append, List.mem_cons, hq, or_true]
theorem mem_j2 {α : Type} {a b c d e f g : α} {x : List α} {q : α} (hq : q ∈ x) : q ∈ a :: b :: c :: d :: e :: f :: g :: x := by
  simp only [List.mem_cons, hq, or_true]
theorem mem_j3 {α : Type} {p b t n w r c1 c2 c3 c4 c5 c6 c7 z : α} {l : List α} : ∀ q ∈ p :: (l ++ [b, t, n, c7, c6, c3, c1, z]), q ∈ p :: (l ++ [b, t, n, w, r, c7, c6, c5, c4, c3, c2, c1, z]) := by
  ((repeat' (first | refine List.forall_mem_cons.mpr ⟨?_, ?_⟩ | refine List.forall_mem_append.mpr ⟨?_, ?_⟩)) <;> first | ((repeat (first | exact List.mem_cons_self | refine List.mem_cons_of_mem _ ?_ | refine List.mem_append_right _ ?_)); done) | exact List.forall_mem_nil _ | (intro q hq; (repeat (first | exact hq | exact List.mem_append_left _ hq | refine List.mem_cons_of_mem _ ?_ | refine List.mem_append_right _ ?_)); done))
theorem mem_j4 {α : Type} {t n w r d c4 c5 c7 : α} {y : List α} : ∀ q ∈ t :: n :: r :: w :: d :: c4 :: c5 :: y, q ∈ t :: n :: r :: w :: d :: c4 :: c5 :: c7 :: y := by
  ((repeat' (first | refine List.forall_mem_cons.mpr ⟨?_, ?_⟩ | refine List.forall_mem_append.mpr ⟨?_, ?_⟩)) <;> first | ((repeat (first | exact List.mem_cons_self | refine List.mem_cons_of_mem _ ?_ | refine List.mem_append_right _ ?_)); done) | exact List.forall_mem_nil _ | (intro q hq; (repeat (first | exact hq | exact List.mem_append_left _ hq | refine List.mem_cons_of_mem _ ?_ | refine List.mem_append_right _ ?_)); done))
theorem off_j9 {α : Type} {P : α → Prop} {p b t n w r c1 c2 c3 c4 c5 c6 c7 z : α} {l : List α} (hp : P p) (hl : ∀ q ∈ l, P q) (hb : P b) (ht : P t) (hn : P n) (hw : P w) (hr : P r) (h7 : P c7) (h6 : P c6) (h5 : P c5) (h4 : P c4) (h3 : P c3) (h2 : P c2) (h1 : P c1) (hz : P z) : ∀ q ∈ p :: (l ++ [b, t, n, w, r, c7, c6, c5, c4, c3, c2, c1, z]), P q := by
  simp only [List.forall_mem_cons, List.forall_mem_append]
  exact ⟨hp, hl, hb, ht, hn, hw, hr, h7, h6, h5, h4, h3, h2, h1, hz, fun q hq => by cases hq⟩
theorem cell_lt {L f : Nat} (h : L + 1 + 1 + 1 + 1 + 1 + 1 + 1 + 1 < f) : L + 1 < f ∧ L + 1 + 1 < f ∧ L + 1 + 1 + 1 < f ∧ L + 1 + 1 + 1 + 1 < f ∧ L + 1 + 1 + 1 + 1 + 1 < f ∧ L + 1 + 1 + 1 + 1 + 1 + 1 < f ∧ L + 1 + 1 + 1 + 1 + 1 + 1 + 1 < f := by
  have h7 := Nat.lt_of_succ_lt h
  have h6 := Nat.lt_of_succ_lt h7
  have h5 := Nat.lt_of_succ_lt h6
  have h4 := Nat.lt_of_succ_lt h5
  have h3 := Nat.lt_of_succ_lt h4
  have h2 := Nat.lt_of_succ_lt h3
  exact ⟨Nat.lt_of_succ_lt h2, h2, h3, h4, h5, h6, h7⟩
theorem cell_ne (L : Nat) : L + 1 ≠ L + 1 + 1 + 1 ∧ L + 1 + 1 ≠ L + 1 + 1 + 1 ∧ L + 1 + 1 + 1 + 1 ≠ L + 1 + 1 + 1 ∧ L + 1 + 1 + 1 + 1 + 1 ≠ L + 1 + 1 + 1 ∧ L + 1 + 1 + 1 + 1 + 1 + 1 ≠ L + 1 + 1 + 1 ∧ L + 1 + 1 + 1 + 1 + 1 + 1 + 1 ≠ L + 1 + 1 + 1 ∧ L + 1 + 1 + 1 + 1 + 1 + 1 + 1 + 1 ≠ L + 1 + 1 + 1 :=
  ⟨(fun h => absurd (Nat.add_left_cancel (n := L) (m := 1) (k := 3) h) (by decide)), (fun h => absurd (Nat.add_left_cancel (n := L) (m := 2) (k := 3) h) (by decide)), (fun h => absurd (Nat.add_left_cancel (n := L) (m := 4) (k := 3) h) (by decide)), (fun h => absurd (Nat.add_left_cancel (n := L) (m := 5) (k := 3) h) (by decide)), (fun h => absurd (Nat.add_left_cancel (n := L) (m := 6) (k := 3) h) (by decide)), (fun h => absurd (Nat.add_left_cancel (n := L) (m := 7) (k := 3) h) (by decide)), (fun h => absurd (Nat.add_left_cancel (n := L) (m := 8) (k := 3) h) (by decide))⟩
theorem cell_n8 (L : Nat) : L + 1 ≠ L + 1 + 1 + 1 + 1 + 1 + 1 + 1 + 1 ∧ L + 1 + 1 ≠ L + 1 + 1 + 1 + 1 + 1 + 1 + 1 + 1 ∧ L + 1 + 1 + 1 ≠ L + 1 + 1 + 1 + 1 + 1 + 1 + 1 + 1 ∧ L + 1 + 1 + 1 + 1 ≠ L + 1 + 1 + 1 + 1 + 1 + 1 + 1 + 1 ∧ L + 1 + 1 + 1 + 1 + 1 ≠ L + 1 + 1 + 1 + 1 + 1 + 1 + 1 + 1 ∧ L + 1 + 1 + 1 + 1 + 1 + 1 ≠ L + 1 + 1 + 1 + 1 + 1 + 1 + 1 + 1 ∧ L + 1 + 1 + 1 + 1 + 1 + 1 + 1 ≠ L + 1 + 1 + 1 + 1 + 1 + 1 + 1 + 1 :=
  ⟨(fun h => absurd (Nat.add_left_cancel (n := L) (m := 1) (k := 8) h) (by decide)), (fun h => absurd (Nat.add_left_cancel (n := L) (m := 2) (k := 8) h) (by decide)), (fun h => absurd (Nat.add_left_cancel (n := L) (m := 3) (k := 8) h) (by decide)), (fun h => absurd (Nat.add_left_cancel (n := L) (m := 4) (k := 8) h) (by decide)), (fun h => absurd (Nat.add_left_cancel (n := L) (m := 5) (k := 8) h) (by decide)), (fun h => absurd (Nat.add_left_cancel (n := L) (m := 6) (k := 8) h) (by decide)), (fun h => absurd (Nat.add_left_cancel (n := L) (m := 7) (k := 8) h) (by decide))⟩
theorem lex_hi {e : Lx} (ok : e.Ok) : (@LT.lt Nat _ e.lf e.dx) ∧ (@LT.lt Nat _ e.lf e.pb) := by
  have ord := ok.ord
  omega
theorem off_x {α : Type} {P : α → Prop} {t n r w d c4 c5 c7 o b c2 c8 c6 c1 z : α} {y : List α} (ht : P t) (hn : P n) (hr : P r) (hw : P w) (hd : P d) (h4 : P c4) (h5 : P c5) (h7 : P c7) (hy : ∀ q ∈ y, P q) (ho : P o) (hb : P b) (h2 : P c2) (h8 : P c8) (h6 : P c6) (h1 : P c1) (hz : P z) : ∀ q ∈ t :: n :: r :: w :: d :: c4 :: c5 :: c7 :: (y ++ [o, b, c2, c8, c6, c1, z]), P q := by
  simp only [List.forall_mem_cons, List.forall_mem_append]
  exact ⟨ht, hn, hr, hw, hd, h4, h5, h7, hy, ho, hb, h2, h8, h6, h1, hz, fun q hq => by cases hq⟩
theorem mem_j5 {α : Type} {p c3 t n r w d c4 c5 c7 o b c2 c8 c6 c1 z : α} {l y : List α} : z ∈ c7 :: p :: (l ++ (c3 :: t :: n :: r :: w :: d :: c4 :: c5 :: (y ++ [o, b, c2, c8, c6, c1, z]))) := by
  (repeat (first | exact List.mem_cons_self | refine List.mem_cons_of_mem _ ?_ | refine List.mem_append_right _ ?_))
theorem st_law {sl : Addr} {vs : List Value} {ns : List Int} {o1 o2 o3 o4 o5 o6 o7 o8 : Obj}
    (hdp : dp < 370) (hun : un < 160) (B : Below A₀ base outer h₀) (F : Fr h₀ L s.heap m) (X : (hd.heap_39 w.params).In h₀) (T : Top p loose mean mg mb h₀) (hE : PassesOwn (model Challenge.rw_pg0080_01.row.prog w) (ktrTop dp un gd (Str.ofString "law") lawP.2.1 L a ccd (lawCl L) outer) (lawE L a ccd) E) (hL : @LT.lt Nat _ 121 L) (C : CodeHd base 125 121) (N : News h₀ L s.heap (csL L ⟨o1, o2, o3, o4, o5, o6, o7, o8⟩ #[]))
    (c1 : isC o1 (some (.ref sl))) (c2 : isC o2 none) (c3 : isC o3 none) (c4 : isC o4 none) (c5 : isC o5 none) (c6 : isC o6 none) (c7 : isC o7 none) (c8 : isC o8 none)
    (hsl : h₀.IsList sl vs.toArray) (hvs : IntsAre vs ns) (hns : ns.length ≤ 63)
    (h : ∀ m' h' tk' ps nw, Fr h₀ L h' m' → News h₀ L h' nw → (121, tabObj ps) ∈ nw → Q2 (.ret (.bool true)) { s with heap := h', toks := tk' }) :
    wpAny (model Challenge.rw_pg0080_01.row.prog w) (ktrTop dp un gd (Str.ofString "law") lawP.2.1 L a ccd (lawCl L) outer) (execs lawP.1 (lawE L a ccd)) Q2 E s := by
  refine st_A1 (c := ⟨o1, o2, o3, o4, o5, o6, o7, o8⟩) hdp hun B F X N T hE c1 c2 hsl hvs hns hL ?_
  clear F N
  intro m1 h1 tk1 p2 t2 t3 n R hn3 hn5 hR2 hR4 d2 mr htk F N
  refine st_A2 (c := ⟨o1, p2, o3, o4, o5, o6, o7, o8⟩) (R := R) (t3 := t3) hdp hun B F X N T hE c1 d2 c4 hsl hvs hns hL hn3 hn5 mr htk ?_
  clear mr htk F N
  intro m2 h2 tk2 p4 rl rs xs nr hrs hxl d4 mr htk fr F N
  refine st_A3 (c := ⟨o1, p2, o3, p4, o5, o6, o7, o8⟩) (R := R) (t3 := t3) hdp hun B F X N T hE d4 c5 hrs hxl hL fr hn3 hn5 mr htk ?_
  clear mr htk F N
  intro m3 h3 tk3 p5 wl ws nw hws d5 mr htk fw F N
  refine st_A4 (c := ⟨o1, p2, o3, p4, p5, o6, o7, o8⟩) (xs := xs) (n := n) (R := R) (t3 := t3) hdp hun B F X N T hE c1 hsl hvs hns hL mr htk ?_
  clear mr htk F N
  intro m4 h4 tk4 nl l nn tl j nt hl hj mr mn mt htk fn ft F N
  refine st_A5 (c := ⟨o1, p2, o3, p4, p5, o6, o7, o8⟩) (sl := sl) (rl := rl) (wl := wl) (nl := nl) (tl := tl) (bl := 0) (rs := rs) (ws := ws) (bs := []) (vs := vs) (xs := xs) (ns := ns) (l := l) (n := n) (R := R) (nr := nr) (nw := nw) (nn := nn) (nt := nt) (nb := 0) (j := j) (t2 := t2) (t3 := t3) hdp hun B F X T hE hL N d4 c6 hrs hxl fr fw.2 fn ft hn3 hn5 mr mn mt htk ?_
  clear htk F N
  intro h5 tk5 p6 bl bs nb hbs d6 htk fb F N
  refine st_A6 (c := ⟨o1, p2, o3, p4, p5, p6, o7, o8⟩) (sl := sl) (rl := rl) (wl := wl) (nl := nl) (tl := tl) (bl := bl) (rs := rs) (ws := ws) (bs := bs) (vs := vs) (xs := xs) (ns := ns) (l := l) (n := n) (R := R) (nr := nr) (nw := nw) (nn := nn) (nt := nt) (nb := nb) (j := j) (t2 := t2) (t3 := t3) hdp hun B F X T hE hL N d2 d5 d6 hxl hws hbs hl hj hn3 hn5 mt htk ?_
  clear htk F N
  intro m6 h6 tk6 tt mx hm6 htk F N
  have mr6 := (hm6 (Str.ofString "rounds") (by decide)).trans mr
  have mn6 := (hm6 (Str.ofString "names") (by decide)).trans mn
  have mt6 := (hm6 (Str.ofString "turned") (by decide)).trans mt
  have hll : l.length = 6 := by
    have := congrArg List.length hl.map
    simpa [nameS] using this
  obtain ⟨Z, hZ⟩ : ∃ Z, Z = l.drop j ++ l.take j := ⟨_, rfl⟩
  have hZl : Z.length = 6 := by rw [hZ]; simp; omega
  have hZm : ∀ q ∈ Z, q ∈ l := by
    intro q hq
    rw [hZ] at hq
    rcases List.mem_append.mp hq with hq | hq
    · exact List.mem_of_mem_drop hq
    · exact List.mem_of_mem_take hq
  have hZn : ∀ q ∈ Z, q.1.length ≤ 6 := by
    intro q hq
    have hqn : q.1 ∈ nameS := by rw [← hl.map]; exact List.mem_map_of_mem (hZm q hq)
    exact nameS_len q.1 hqn
  rw [← hZ] at mx
  have lA := flatA_len xs
  have lB := flatB_len hZn
  have htx : (textL xs Z).length < 200 := by rw [textL_eq, List.length_append]; omega
  refine st_A7 (Z := Z) (c := ⟨o1, p2, o3, p4, p5, p6, o7, o8⟩) (sl := sl) (rl := rl) (wl := wl) (nl := nl) (tl := tl) (bl := bl) (rs := rs) (ws := ws) (bs := bs) (vs := vs) (xs := xs) (ns := ns) (l := l) (n := n) (R := R) (nr := nr) (nw := nw) (nn := nn) (nt := nt) (nb := nb) (j := j) (t2 := t2) (t3 := t3) hdp hun B F X T hE hL N rfl C c7 fr fw.2 fn ft fb mx htx htk ?_
  clear htk F N
  intro h7 tk7 e p7 cv nf t1 ps ok hch d7 low htk F N
  refine st_A8 (Z := Z) (c := ⟨o1, p2, o3, p4, p5, p6, p7, o8⟩) (sl := sl) (rl := rl) (wl := wl) (nl := nl) (tl := tl) (bl := bl) (rs := rs) (ws := ws) (bs := bs) (vs := vs) (xs := xs) (ns := ns) (l := l) (n := n) (R := R) (nr := nr) (nw := nw) (nn := nn) (nt := nt) (nb := nb) (j := j) (t2 := t2) (t3 := t3) hdp hun B F X T hE hL C N ok hch htx low d2 d5 d7 hxl hws hn3 hn5 htk ?_
  clear htk F N
  intro h8 tk8 cv8 nf8 t8 hch8 htk F N
  have ord := ok.ord
  rw [← hZ] at N low
  have l121 := low (121, tabObj ps) (by (repeat (first | exact List.mem_cons_self | refine List.mem_cons_of_mem _ ?_ | refine List.mem_append_right _ ?_)))
  have hL8 : @LT.lt Nat _ (L + 1 + 1 + 1 + 1 + 1 + 1 + 1 + 1) e.lf := low (L + 1 + 1 + 1 + 1 + 1 + 1 + 1 + 1, o8) (by (repeat (first | exact List.mem_cons_self | refine List.mem_cons_of_mem _ ?_ | refine List.mem_append_right _ ?_)))
  obtain ⟨z1, z2, z3, z4, z5, z6, hL7⟩ := cell_lt hL8
  obtain ⟨y1, y2, y4, y5, y6, y7, y8⟩ := cell_ne L
  obtain ⟨v1, v2, v3, v4, v5, v6, v7⟩ := cell_n8 L
  obtain ⟨g1, g2⟩ := lex_hi ok
  have wtl : @LT.lt Nat _ tl e.lf := low (tl, W.listOf (txts Z).toArray nt) (by (repeat (first | exact List.mem_cons_self | refine List.mem_cons_of_mem _ ?_ | refine List.mem_append_right _ ?_)))
  have wnl : @LT.lt Nat _ nl e.lf := low (nl, W.listOf (txts l).toArray nn) (by (repeat (first | exact List.mem_cons_self | refine List.mem_cons_of_mem _ ?_ | refine List.mem_append_right _ ?_)))
  have wrl : @LT.lt Nat _ rl e.lf := low (rl, W.listOf rs.toArray nr) (by (repeat (first | exact List.mem_cons_self | refine List.mem_cons_of_mem _ ?_ | refine List.mem_append_right _ ?_)))
  have wwl : @LT.lt Nat _ wl e.lf := low (wl, W.listOf ws.toArray nw) (by (repeat (first | exact List.mem_cons_self | refine List.mem_cons_of_mem _ ?_ | refine List.mem_append_right _ ?_)))
  have wbl : @LT.lt Nat _ bl e.lf := low (bl, W.listOf bs.toArray nb) (by (repeat (first | exact List.mem_cons_self | refine List.mem_cons_of_mem _ ?_ | refine List.mem_append_right _ ?_)))
  have cf : ∀ (x : Addr), LCg.Off1 x (csL L ⟨o1, p2, o3, p4, p5, p6, p7, o8⟩ ps) → @Ne Nat x (L + 1 + 1 + 1) ∧ @Ne Nat x (L + 1 + 1 + 1 + 1 + 1 + 1 + 1 + 1) := fun x hx => ⟨Ne.symm (off1_mem hx (L + 1 + 1 + 1, o3) (by (repeat (first | exact List.mem_cons_self | refine List.mem_cons_of_mem _ ?_ | refine List.mem_append_right _ ?_)))), Ne.symm (off1_mem hx (L + 1 + 1 + 1 + 1 + 1 + 1 + 1 + 1, o8) (by (repeat (first | exact List.mem_cons_self | refine List.mem_cons_of_mem _ ?_ | refine List.mem_append_right _ ?_))))⟩
  have xrl := cf rl fr
  have xwl := cf wl fw.2
  have xnl := cf nl fn
  have xtl := cf tl ft
  have xbl := cf bl fb
  have hlex := lex_off ok hL8 (ln := 1 + nls (flatA xs)) (t1 := t8) (cv := cv8) (nf := nf8)
  obtain ⟨r9, hr9⟩ : ∃ r9 : List (Addr × Obj), r9 = (e.pb, W.listOf ([] : List Value).toArray 0) :: (lexL e (1 + nls (flatA xs)) t8 cv8 nf8 ++ [(bl, W.listOf bs.toArray nb), (tl, W.listOf (txts Z).toArray nt), (nl, W.listOf (txts l).toArray nn), (wl, W.listOf ws.toArray nw), (rl, W.listOf rs.toArray nr), (L + 1 + 1 + 1 + 1 + 1 + 1 + 1, p7), (L + 1 + 1 + 1 + 1 + 1 + 1, p6), (L + 1 + 1 + 1 + 1 + 1, p5), (L + 1 + 1 + 1 + 1, p4), (L + 1 + 1 + 1, o3), (L + 1 + 1, p2), (L + 1, o1), (121, tabObj ps)]) := ⟨_, rfl⟩
  have N9 : News h₀ L h8 ((L + 1 + 1 + 1 + 1 + 1 + 1 + 1 + 1, o8) :: r9) := news_sub N (by
    rw [hr9]
    exact mem_j9 (l := lexL e (1 + nls (flatA xs)) t8 cv8 nf8))
  have o9 : ∀ q ∈ r9, q.1 ≠ L + 1 + 1 + 1 + 1 + 1 + 1 + 1 + 1 := by
    rw [hr9]
    exact off_j9 (P := fun q : Addr × Obj => q.1 ≠ L + 1 + 1 + 1 + 1 + 1 + 1 + 1 + 1) (Ne.symm (Nat.ne_of_lt (Nat.lt_trans hL8 g2))) (fun q hq => Ne.symm (Nat.ne_of_lt (hlex q hq).1)) xbl.2 xtl.2 xnl.2 xwl.2 xrl.2 v7 v6 v5 v4 v3 v2 v1 (Nat.ne_of_lt (Nat.lt_of_lt_of_le hL (Nat.le_add_right L 8)))
  refine st_A9 (R := R) (t3 := t3) hdp hun B F X T hE hL N9 o9 c8 mr6 hR4 htk ?_
  clear htk F N N9
  intro m9 h9 tk9 p8 ol os no hos d8 fo hm9 htk F N
  obtain ⟨r10, hr10⟩ : ∃ r10 : List (Addr × Obj), r10 = (e.pb, W.listOf ([] : List Value).toArray 0) :: (lexL e (1 + nls (flatA xs)) t8 cv8 nf8 ++ [(bl, W.listOf bs.toArray nb), (tl, W.listOf (txts Z).toArray nt), (nl, W.listOf (txts l).toArray nn), (L + 1 + 1 + 1 + 1 + 1 + 1 + 1, p7), (L + 1 + 1 + 1 + 1 + 1 + 1, p6), (L + 1 + 1 + 1, o3), (L + 1, o1), (121, tabObj ps)]) := ⟨_, rfl⟩
  have N10 : News h₀ L h9 ((rl, W.listOf rs.toArray nr) :: (wl, W.listOf ws.toArray nw) :: (ol, W.listOf os.toArray no) :: (L + 1 + 1, p2) :: (L + 1 + 1 + 1 + 1, p4) :: (L + 1 + 1 + 1 + 1 + 1, p5) :: (L + 1 + 1 + 1 + 1 + 1 + 1 + 1 + 1, p8) :: r10) := news_sub N (by
    rw [hr9, hr10]
    exact mem_j10 (l := lexL e (1 + nls (flatA xs)) t8 cv8 nf8))
  obtain ⟨k1, k2, k3⟩ := onesL_facts hR2 hR4
  have mr9 := (hm9 (Str.ofString "rounds") (by decide)).trans mr6
  have mn9 := (hm9 (Str.ofString "names") (by decide)).trans mn6
  have mt9 := (hm9 (Str.ofString "turned") (by decide)).trans mt6
  have mx9 := (hm9 (Str.ofString "text") (by decide)).trans mx
  refine st_A10 (R := R) (kn := onesL R) hdp hun B F X T hE hL N10 d2 d4 d5 d8 hrs hxl hn3 hn5 hws hos k1 k2 hR4 k3 htk ?_
  clear htk F N N10
  intro m10 h10 tk10 dl ds nd hda hdl md hm10 htk F N fd fds
  have mr10 := (hm10 (Str.ofString "rounds") (by decide)).trans mr9
  have mn10 := (hm10 (Str.ofString "names") (by decide)).trans mn9
  have mt10 := (hm10 (Str.ofString "turned") (by decide)).trans mt9
  have mx10 := (hm10 (Str.ofString "text") (by decide)).trans mx9
  obtain ⟨r11, hr11⟩ : ∃ r11 : List (Addr × Obj), r11 = [(ol, W.listOf os.toArray no), (bl, W.listOf bs.toArray nb), (L + 1 + 1, p2), (L + 1 + 1 + 1 + 1 + 1 + 1 + 1 + 1, p8), (L + 1 + 1 + 1 + 1 + 1 + 1, p6), (L + 1, o1), (121, tabObj ps)] := ⟨_, rfl⟩
  have N11 : News h₀ L h10 ((e.pb, W.listOf ([] : List Value).toArray 0) :: (lexL e (1 + nls (flatA xs)) t8 cv8 nf8 ++ ((L + 1 + 1 + 1, o3) :: lpB tl nl rl wl dl Z l rs ws ds nt nn nr nw nd L p4 p5 p7 r11))) := news_sub N (by
    rw [hr10, hr11]
    exact mem_j11 (l := lexL e (1 + nls (flatA xs)) t8 cv8 nf8))
  have new : ∀ D : Addr, (∀ q ∈ r10, q.1 ≠ D) → D ≠ e.lf ∧ D ≠ e.dx ∧ D ≠ e.pb ∧ D ≠ L + 1 + 1 + 1 := by
    intro D hD
    rw [hr10] at hD
    exact ⟨Ne.symm (hD (e.lf, _) (List.mem_cons_of_mem _ (List.mem_append_left _ List.mem_cons_self))), Ne.symm (hD (e.dx, _) (List.mem_cons_of_mem _ (List.mem_append_left _ (List.mem_cons_of_mem _ List.mem_cons_self)))), Ne.symm (hD (e.pb, _) List.mem_cons_self),
      Ne.symm (hD (L + 1 + 1 + 1, o3) (List.mem_cons_of_mem _ (List.mem_append_right _ (by (repeat (first | exact List.mem_cons_self | refine List.mem_cons_of_mem _ ?_ | refine List.mem_append_right _ ?_))))))⟩
  have old : ∀ D : Addr, @LT.lt Nat _ D e.lf → @Ne Nat D (L + 1 + 1 + 1) → D ≠ e.lf ∧ D ≠ e.dx ∧ D ≠ e.pb ∧ D ≠ L + 1 + 1 + 1 := fun D h1 h2 =>
    ⟨Nat.ne_of_lt h1, Nat.ne_of_lt (Nat.lt_trans h1 g1), Nat.ne_of_lt (Nat.lt_trans h1 g2), h2⟩
  have fx : ∀ q ∈ lpB tl nl rl wl dl Z l rs ws ds nt nn nr nw nd L p4 p5 p7 r11, q.1 ≠ e.lf ∧ q.1 ≠ e.dx ∧ q.1 ≠ e.pb ∧ q.1 ≠ L + 1 + 1 + 1 := by
    rw [hr11]
    refine off_x (P := fun q : Addr × Obj => q.1 ≠ e.lf ∧ q.1 ≠ e.dx ∧ q.1 ≠ e.pb ∧ q.1 ≠ L + 1 + 1 + 1) (old tl wtl xtl.1) (old nl wnl xnl.1) (old rl wrl xrl.1) (old wl wwl xwl.1) (new dl fun q hq => off1_mem fd q (mem_j1 hq)) (old _ z4 y4) (old _ z5 y5) (old _ hL7 y7) (fun q hq => ?_) (new ol fun q hq => off1_mem fo q (List.mem_cons_of_mem _ ?_)) (old bl wbl xbl.1) (old _ z2 y2) (old _ hL8 y8) (old _ z6 y6) (old _ z1 y1) (old _ l121 (Nat.ne_of_lt (Nat.lt_of_lt_of_le hL (Nat.le_add_right L 3))))
    · obtain ⟨d, hd, rfl⟩ := List.mem_map.mp hq
      exact new d.1 fun q hq => off1_mem (fds d hd) q (mem_j2 hq)
    · rw [hr10] at hq
      rw [hr9]
      exact mem_j3 (l := lexL e (1 + nls (flatA xs)) t8 cv8 nf8) q hq
  refine st_A11 (R := R) (t3 := t3) (xs := xs) (np := 0) hdp hun B F X T hE hL C N11 ok hl hZm wnl hL7 fx c3 d4 d5 d7 hch8 (by have := chs_len hch8; omega) htk hrs (by rw [List.map_map]; exact hws) (by omega) (by omega) hR2 hR4 (by omega) hda mr10 md mt10 mn10 ?_
  clear htk F N N11
  intro m11 h11 tk11 np11 nf11 t11 p3 hm11 htk F N
  have mx11 := (hm11 (Str.ofString "text") (by decide) (by decide) (by decide)).trans mx10
  rw [Int.add_assoc, ← nls_append, ← textL_eq] at N
  have N12 := news_sub N (mem_j12 (l := lexL e (1 + nls (textL xs Z)) t11 [] nf11) (y := dsL ds ++ r11))
  have hx12 : ∀ q ∈ (L + 1 + 1 + 1, p3) :: (tl, W.listOf (txts Z).toArray nt) :: (nl, W.listOf (txts l).toArray nn) :: (rl, W.listOf rs.toArray nr) :: (wl, W.listOf ws.toArray nw) :: (dl, W.listOf (ds.map fun d => Value.ref d.1).toArray nd) :: (L + 1 + 1 + 1 + 1, p4) :: (L + 1 + 1 + 1 + 1 + 1, p5) :: (dsL ds ++ r11), q.1 ≠ e.lf ∧ q.1 ≠ e.dx := by
    intro q hq
    rcases List.mem_cons.mp hq with rfl | hq
    · exact ⟨Nat.ne_of_lt z3, Nat.ne_of_lt (Nat.lt_trans z3 g1)⟩
    · have := fx q (mem_j4 q hq)
      exact ⟨this.1, this.2.1⟩
  refine st_A12 (TX := textL xs Z) hdp hun B F X T hE hL C N12 ok d7 mx11 htx htk hL7 (fun q hq => (hx12 q hq).1) (fun q hq => (hx12 q hq).2) ?_
  clear htk F N N12
  intro h12 tk12 F N
  refine h m11 h12 tk12 ps _ F N ?_
  rw [hr11]
  exact mem_j5 (l := lexL e (1 + nls (textL xs Z)) t11 [] nf11)
end
end
end
end
end
end Mine
set_option maxRecDepth 100000 in
set_option maxHeartbeats 8000000 in
theorem PySem.Challenge.cw_pg0080_01_holds : PySem.Challenge.rw_pg0080_01.Holds := by
  refine Mine.hd ?_
  k_go0
  (all_goals try k_fold)
  rename News _ _ _ _ => N
  rename Fr _ _ _ _ => F
  rename Below _ _ _ _ => B
  rename CodeHd _ _ _ => C
  rename Frag.In _ _ => X
  rename Top _ _ _ _ _ _ => T9
  rename IntsAre _ _ => hI
  rename Heap.IsList _ _ _ => hl9
  refine Mine.st_law (un := 7) (dp := 302) (by decide) (by decide) B F X T9 ?hE (by assumption) C N ?c1 ?c2 ?c3 ?c4 ?c5 ?c6 ?c7 ?c8 hl9 hI ?hn ?h
  case hE => passes_own
  case hn => omega
  case h =>
    intro m' h' tk' ps nw F' N' hm
    refine ⟨?_, GrownAt.of N' hm, trivial⟩
    refine goodW_bool F' (by assumption) (raisesW_false ?_) ?_
    · wrow_none_raised
    · kc_post
  all_goals (refine Eq.trans (by assumption) ?_; with_unfolding_all rfl)
