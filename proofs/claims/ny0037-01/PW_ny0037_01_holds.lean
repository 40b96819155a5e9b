import PyProof.Rows.All
import Wide.All
import OpenK.AllK
import Wide.FinOn
import PySem.Challenge.RW_ny0037_01
set_option Elab.async false
section
open PySem PySem.W PyProof.Rows
set_option maxRecDepth 100000
set_option maxHeartbeats 8000000
namespace Mine
open_top hd for PySem.Challenge.rw_ny0037_01
end Mine
end

-- PURE
noncomputable section
open PySem PySem.W PyProof.Rows
namespace Mine
/-- CRLF for each line end -/
noncomputable def eolL : List Nat → List Nat
  | [] => []
  | 13 :: 10 :: r => 13 :: 10 :: eolL r
  | 13 :: r => 13 :: 10 :: eolL r
  | 10 :: r => 13 :: 10 :: eolL r
  | c :: r => c :: eolL r
/-- one dot more at each row that begins with a dot; b: here a row begins -/
noncomputable def dotL : Bool → List Nat → List Nat
  | _, [] => []
  | true, 46 :: r => 46 :: 46 :: dotL false r
  | _, c :: r => c :: dotL (c == 10) r
def fixS (x : Str) : Str := ⟨(eolL x.cps.toList).toArray⟩
def quoteS (x : Str) : Str := ⟨(dotL true (eolL x.cps.toList)).toArray⟩
end Mine
end

-- FIG
noncomputable section
open PySem PySem.W PyProof.Rows
set_option maxRecDepth 100000
set_option maxHeartbeats 8000000
namespace Mine
theorem allLt_out {d : Addr} : ∀ {l : List (Addr × Obj)}, AllLt d l → ∀ p ∈ l, p.1 < d := by
  intro l
  induction l with
  | nil => intro _ p hp; cases hp
  | cons a r ih =>
    intro h p hp
    rcases List.mem_cons.mp hp with q | q
    · rw [q]; exact h.1
    · exact ih h.2 p q
theorem news_e3 {h₀ h : Heap} {L : Addr} {e a b c : Addr × Obj} {news : List (Addr × Obj)} (N : News h₀ L h (e :: a :: b :: c :: news)) : News h₀ L h (e :: news) := by
  intro p hp
  refine N p ?_
  simp only [List.mem_cons] at hp ⊢
  rcases hp with q | q
  · exact .inl q
  · exact .inr (.inr (.inr (.inr q)))
theorem news_2e {h₀ h : Heap} {L : Addr} {e a b : Addr × Obj} {news : List (Addr × Obj)} (N : News h₀ L h (a :: b :: e :: news)) : News h₀ L h (e :: news) := by
  intro p hp
  refine N p ?_
  simp only [List.mem_cons] at hp ⊢
  rcases hp with q | q
  · exact .inr (.inr (.inl q))
  · exact .inr (.inr (.inr q))
theorem lt_of3 {d x y z : Addr} {l : List (Addr × Obj)} (h : x < d ∧ y < d ∧ z < d ∧ AllLt d l) : ∀ p ∈ l, p.1 < d := allLt_out h.2.2.2
theorem figures_ct {w : World} {p : Program} {loose : List Str} {mean : ExcName → Option Value} {mg mb : Str → Option Value}
    {cn : Str} {cs : Scope} {a : Addr} {ccd : Value} {cl : List (Str × Addr)} {outer : List Env} {A₀ : Around} {base h₀ : Heap} {L : Addr} {m : Str → Option Value} {news : List (Addr × Obj)} {s : Shared} {Q E : Value → Shared → Prop}
    {l : Addr} {vs : List Value} {ns : List Int}
    (B : Below A₀ base outer h₀) (F : Fr h₀ L s.heap m) (X : (hd.heap_39 w.params).In h₀) (N : News h₀ L s.heap news) (T : Top p loose mean mg mb h₀) (hk : cs.kind = .function)
    (hl : base.IsList l vs.toArray) (hI : IntsAre vs ns) (hlen : ns.length ≤ 63)
    (ret : ∀ d vs' fs n h' tk', Fr h₀ L h' m → News h₀ L h' ((d, W.listOf vs'.toArray n) :: news) → IntsAre vs' fs → fs.length ≤ 8 → (∀ q ∈ news, q.1 < d) → Q (.ref d) { s with heap := h', toks := tk' }) :
    wpAny (model PySem.Challenge.rw_ny0037_01.row.prog w) (ktrTop 302 7 (some []) cn cs L a ccd cl outer) (call (.ref 111) [.ref l]) Q E s := by
  w_top off; k_with_none
  revert X; k_fill; intro X
  k_with "pyIter ref" => (k_of "x" => k_state (fun pre figures => figures.length ≤ 8) "figures")
  k_with "exec While Compare cons nil" => k_while (fun script figures rest => figures.length ≤ 8) (fun script figures rest => 8 - figures.length) "figures" "rest"
  refine wpAny_call ?_
  k_dflt cell_enter
  k_steps
  · rename News _ _ _ _ => kN
    rename Fr _ _ _ _ => kF
    exact ret _ [_, _, _] [7, 9, 0] _ _ _ kF (news_e3 kN) (.cons _ _ (.cons _ _ (.cons _ _ .nil))) (by decide) (lt_of3 (by assumption))
  · rename News _ _ _ _ => kN
    rename Fr _ _ _ _ => kF
    exact ret _ _ _ _ _ _ kF (news_2e kN) (by assumption) (by assumption) (by assumption)
end Mine
end

-- NX0
noncomputable section
open PySem PySem.W PyProof.Rows
set_option maxRecDepth 100000
namespace Mine
theorem slot_ci_next : Slot "callable_iterator" "__next__" "callable_iterator.__next__" :=
  .of (owner := "callable_iterator") (n := "__next__") (by rw [typeLookup_type, builtinLookup_eq_fast]; kernel_rfl) (by decide +kernel) (by decide +kernel) (by decide +kernel)
    (by first | exact .inl (by decide +kernel) | exact .inr (by decide +kernel)) (by rw [isSubtype_type]; kernel_rfl)
theorem slot_ci_iter : Slot "callable_iterator" "__iter__" "callable_iterator.__iter__" :=
  .of (owner := "callable_iterator") (n := "__iter__") (by rw [typeLookup_type, builtinLookup_eq_fast]; kernel_rfl) (by decide +kernel) (by decide +kernel) (by decide +kernel)
    (by first | exact .inl (by decide +kernel) | exact .inr (by decide +kernel)) (by rw [isSubtype_type]; kernel_rfl)
theorem entry_ci_next : entryFor table "callable_iterator.__next__" = some Builtin.«callable_iterator.__next__» := entryFor_of_tree (by kernel_rfl)
theorem entry_ci_iter : entryFor table "callable_iterator.__iter__" = some Builtin.«dict_keyiterator.__iter__» :=
  entryFor_alias (id' := "dict_keyiterator.__iter__") (by kernel_rfl) rfl (by decide +kernel) (by kernel_rfl)
theorem args_ci_next (a : Value) : argsOk "callable_iterator.__next__" ⟨[a], []⟩ := by unfold argsOk; kernel_rfl
theorem args_ci_iter (a : Value) : argsOk "callable_iterator.__iter__" ⟨[a], []⟩ := by unfold argsOk; kernel_rfl
theorem slot_pat_sub : Slot "re.Pattern" "sub" "re.Pattern.sub" :=
  .of (owner := "re.Pattern") (n := "sub") (by rw [typeLookup_type, builtinLookup_eq_fast]; kernel_rfl) (by decide +kernel) (by decide +kernel) (by decide +kernel)
    (by first | exact .inl (by decide +kernel) | exact .inr (by decide +kernel)) (by rw [isSubtype_type]; kernel_rfl)
theorem entry_pat_sub : entryFor table "re.Pattern.sub" = some Builtin.«re.Pattern.sub» := entryFor_of_tree (by kernel_rfl)
theorem entry_pat_subloop : entryFor table "re.Pattern.sub.loop" = some Builtin.«re.Pattern.sub.loop» := entryFor_of_tree (by kernel_rfl)
theorem args_pat_sub (a b c : Value) : argsOk "re.Pattern.sub" ⟨[a, b, c], []⟩ := by unfold argsOk; kernel_rfl
end Mine
end

-- NX
noncomputable section
open PySem PySem.W PyProof.Rows
set_option maxRecDepth 100000
namespace Mine
/-- what a deeper, fuller place may do, a shallower one may -/
theorem wpAny_le {α : Type} {M : Model} {A A' : Around} {t : Sem α} {Q : α → Shared → Prop} {E : Value → Shared → Prop} {s : Shared} (h : wpAny M A' t Q E s)
    (hh : A.handled = A'.handled) (hd : A.depth ≤ A'.depth) (hf : A.frames = A'.frames) (hg : A.guards = A'.guards) (hu : A.units ≤ A'.units) : wpAny M A t Q E s :=
  fun Γ p hΓ => h Γ p ⟨hΓ.1.trans hh, Nat.le_trans hΓ.2.1 hd, fun l hl => hΓ.2.2.1 l (hf.trans hl), fun g hg' => hΓ.2.2.2.1 g (hg.trans hg'), Nat.le_trans hΓ.2.2.2.2 hu⟩
abbrev ciObj (f e : Value) (b : Bool) : Obj := { cls := .type "callable_iterator", data := .fields #[f, e, .bool b] }
section
variable {prog : Program} {w : World} {A : Around} {E : Value → Shared → Prop} {s : Shared}
theorem borrowed_call {f : Value} {pos : List Value} {Q : Value → Shared → Prop} (h : wpAny (model prog w) A (call f pos) Q E s) : wpAny (model prog w) A (callBorrowed f pos) Q E s :=
  fun Γ p hΓ => by
    have h' := h Γ p hΓ
    unfold call at h'
    rw [Sem.wp_runValue] at h'
    unfold callBorrowed
    rw [Sem.wp_call]
    refine wpCode_mono (fun r s' hr => ?_) h'
    cases r with
    | ok f => cases f <;> first | exact hr | exact hr.elim
    | error e => exact hr
theorem stop_wp {α : Type} {Q : α → Shared → Prop} (hh : A.handled = none)
    (h : ∀ h' e, (∀ b o, s.heap.get? b = some o → h'.get? b = some o) → Shared.TypeIs { s with heap := h' } e "StopIteration" → E e { s with heap := h' }) :
    wpAny (model prog w) A (Builtin.SmallTypes.stopIteration : Sem α) Q E s := by
  unfold Builtin.SmallTypes.stopIteration
  refine wpAny_bind ?_
  simp only [newExc, newTuple]
  refine wpAny_bind (wpAny_newObj_type ?_ (by size_fits))
  refine wpAny_bind (m := firstArgMember _ _) (wpAny_of_eq (a := Value.none) (by first | rfl | (simp only [firstArgMember]; rfl)) ?_)
  refine wpAny_newObj_type ?_ (by size_fits)
  simp only [raiseNew]
  refine wpAny_bind (wpAny_handled ?_)
  rw [hh]
  refine wpAny_bind (wpAny_pure (wpAny_throw ?_))
  exact h _ _ (fun b o e => Heap.get?_push_of_some _ (Heap.get?_push_of_some _ e)) ⟨_, Heap.get?_push_size _ rfl, rfl⟩
theorem borrows_method {bm fn : Addr} {self : Value} {ofn : Obj} {fd : FuncData} {Q : Bool → Shared → Prop} (hbm : s.heap.get? bm = some (methodObj (.ref fn) self)) (hfn : s.heap.get? fn = some ofn) (hfd : ofn.data = .func fd)
    (h : Q true s) : wpAny (model prog w) A (borrowsExactly (.ref bm)) Q E s := by
  unfold borrowsExactly
  refine wpAny_bind (wpAny_load hbm ?_)
  show wpAny _ _ (do match (← load fn).data with
      | .func _ => pure true
      | _ => pure false) _ _ s
  refine wpAny_bind (wpAny_load hfn ?_)
  rw [hfd]
  exact wpAny_pure h
theorem lets_go {who : String} {busy : Code → Bool} {bm fn : Addr} {self : Value} {ofn : Obj} {fd : FuncData} {Q : Unit → Shared → Prop} (hbm : s.heap.get? bm = some (methodObj (.ref fn) self)) (hfn : s.heap.get? fn = some ofn) (hfd : ofn.data = .func fd)
    (h : Q () s) : wpAny (model prog w) A (slotLetsGo who (.ref bm) busy) Q E s := by
  unfold slotLetsGo
  refine wpAny_bind (borrows_method hbm hfn hfd ?_)
  exact wpAny_pure h
def CiPost (it bm fn : Addr) (self : Value) (snt : Str) (t : Tok) (ofn : Obj) (Q : Option Value → Shared → Prop) (v : Value) (s' : Shared) : Prop :=
  ∃ x t', v = .str x t' ∧ s'.heap.get? it = some (ciObj (.ref bm) (.str snt t) false) ∧ s'.heap.get? bm = some (methodObj (.ref fn) self) ∧ s'.heap.get? fn = some ofn ∧
      ((x ≠ snt → Q (some v) s') ∧ (x = snt → ∀ h', Heap.ExtBut it s'.heap h' → h'.get? it = some (ciObj .none .none true) → Q none { s' with heap := h' }))
/-- the callable gives something else than the sentinel, or it gives the sentinel: the end -/
theorem ci_next {it bm fn : Addr} {self : Value} {snt : Str} {t : Tok} {ofn : Obj} {fd : FuncData} {Q : Option Value → Shared → Prop} (hh : A.handled = none)
    (hit : s.heap.get? it = some (ciObj (.ref bm) (.str snt t) false)) (hbm : s.heap.get? bm = some (methodObj (.ref fn) self)) (hfn : s.heap.get? fn = some ofn) (hfd : ofn.data = .func fd)
    (h : codeAny (model prog w) A.in1 (.call (.ref fn) ⟨[self], []⟩) (fun r s' => match r with | .ok (.ret v) => CiPost it bm fn self snt t ofn Q v s' | .ok _ => False | .error _ => False) s) :
    wpAny (model prog w) A (pyNext (.ref it)) Q E s := by
  have hT : s.TypeIs (.ref it) "callable_iterator" := ⟨_, hit, rfl⟩
  unfold pyNext
  refine wpAny_bind (wpAny_attempt (wpAny_callSpecial?_slot (name := Str.ofString "__next__") hT slot_ci_next
    (wpAny_call_entry slot_ci_next hT entry_ci_next ?_ (args_ci_next _))))
  show wpAny _ _ (field (.ref it) 2 >>= _) _ _ s
  refine wpAny_bind (wpAny_field hit rfl (x := .bool false) rfl ?_)
  show wpAny _ _ (field (.ref it) 0 >>= _) _ _ s
  refine wpAny_bind (wpAny_field hit rfl (x := .ref bm) rfl ?_)
  refine wpAny_bind (wpAny_attempt ?_)
  unfold callOutOfASlot
  refine wpAny_bind (borrows_method hbm hfn hfd ?_)
  show wpAny _ _ (callBorrowed (.ref bm) []) _ _ s
  refine borrowed_call (wpAny_call (method_call hbm (codeAny_mono h ?_)))
  intro r s' hr
  cases r with
  | error e => exact hr.elim
  | ok f =>
    cases f with
    | next => exact hr.elim
    | brk => exact hr.elim
    | cont => exact hr.elim
    | ret v =>
      obtain ⟨x, t', rfl, hit', hbm', hfn', hq, he⟩ := hr
      show wpAny _ _ (field (.ref it) 2 >>= _) _ _ s'
      refine wpAny_bind (wpAny_field hit' rfl (x := .bool false) rfl ?_)
      show wpAny _ _ (field (.ref it) 1 >>= _) _ _ s'
      refine wpAny_bind (wpAny_field hit' rfl (x := .str snt t) rfl ?_)
      refine wpAny_bind (wpAny_holding (eqBool_str ?_))
      by_cases hx : x = snt
      · subst hx
        rw [beq_self_eq_true]
        show wpAny _ _ (rule _ >>= _) _ _ s'
        refine wpAny_bind (wpAny_rule ?_)
        refine wpAny_bind ?_
        show wpAny _ _ (field (.ref it) 0 >>= fun old => slotLetsGo "callable_iterator.__next__" old _ >>= fun _ => setField (.ref it) 0 .none >>= fun _ => setField (.ref it) 1 .none >>= fun _ => setField (.ref it) 2 (.bool true)) _ _ s'
        refine wpAny_bind (wpAny_field hit' rfl (x := .ref bm) rfl ?_)
        refine wpAny_bind (lets_go hbm' hfn' hfd ?_)
        have u1 := Heap.get?_update_self (Obj.mapFields (·.setIfInBounds 0 .none)) hit' rfl
        refine wpAny_bind (wpAny_setField hit' rfl (by simp) ?_)
        have u2 := Heap.get?_update_self (Obj.mapFields (·.setIfInBounds 1 .none)) u1 rfl
        refine wpAny_bind (wpAny_setField u1 rfl (by simp) ?_)
        have u3 := Heap.get?_update_self (Obj.mapFields (·.setIfInBounds 2 (.bool true))) u2 rfl
        refine wpAny_setField u2 rfl (by simp) ?_
        refine stop_wp hh fun h' e hk hT' => ?_
        refine wpAny_bind (wpAny_isInstance hT' isSubtype_stop ?_)
        refine wpAny_pure (he rfl h' (fun b o hb e' => hk b o ?_) (hk _ _ u3))
        exact (Heap.get?_update_ne _ _ _ _ hb).trans ((Heap.get?_update_ne _ _ _ _ hb).trans ((Heap.get?_update_ne _ _ _ _ hb).trans e'))
      · rw [beq_eq_false_iff_ne.mpr (Ne.symm hx)]
        exact wpAny_pure ⟨_, rfl, wpAny_pure (hq hx)⟩
theorem ci_next_end {it : Addr} {Q : Option Value → Shared → Prop} (hh : A.handled = none)
    (hit : s.heap.get? it = some (ciObj .none .none true)) (h : ∀ h', (∀ b o, s.heap.get? b = some o → h'.get? b = some o) → Q none { s with heap := h' }) :
    wpAny (model prog w) A (pyNext (.ref it)) Q E s := by
  have hT : s.TypeIs (.ref it) "callable_iterator" := ⟨_, hit, rfl⟩
  unfold pyNext
  refine wpAny_bind (wpAny_attempt (wpAny_callSpecial?_slot (name := Str.ofString "__next__") hT slot_ci_next
    (wpAny_call_entry slot_ci_next hT entry_ci_next ?_ (args_ci_next _))))
  show wpAny _ _ (field (.ref it) 2 >>= _) _ _ s
  refine wpAny_bind (wpAny_field hit rfl (x := .bool true) rfl ?_)
  show wpAny _ _ (rule _ >>= _) _ _ s
  refine wpAny_bind (wpAny_rule ?_)
  refine wpAny_bind (stop_wp hh fun h' e hk hT' => ?_)
  refine wpAny_bind (wpAny_isInstance hT' isSubtype_stop ?_)
  exact wpAny_pure (h h' hk)
end
end Mine
end

-- RC
noncomputable section
open PySem PySem.W PyProof.Rows
set_option maxRecDepth 100000
set_option maxHeartbeats 8000000
namespace Mine
/-- the nested def's own statement, read off the program -/
def nestedDef : Stmt → Option (Arguments × List Stmt × Scope)
  | .FunctionDef _ _ body _ _ _ _ _ _ _ => match body with
    | _ :: .FunctionDef _ args b _ _ _ sc _ _ _ :: _ => some (args, b, sc)
    | _ => none
  | _ => none
def giveD : { d : Arguments × List Stmt × Scope // (PySem.Challenge.pw_ny0037_01.main.body[12]?).bind nestedDef = some d } := ⟨_, rfl⟩
abbrev giveQ : Str := (Str.ofString "_law_stream" ++ (".<locals>." : Str)) ++ Str.ofString "_law_give"
abbrev giveO (c1 c2 c : Addr) (dc pm ct : Value) : Obj :=
  fnMade (Str.ofString "_law_give") giveQ giveD.1.1 giveD.1.2.1 giveD.1.2.2 [(Str.ofString "text", c1), (Str.ofString "at", c2)] dc pm c ct
structure LexT where
  t1 : Tok
  t2 : Tok
  t3 : Tok
  t4 : Tok
  t5 : Tok
structure StrT where
  t0 : Tok
  t1 : Tok
  t2 : Tok
  t3 : Tok
  t4 : Tok
  t5 : Tok
  t6 : Tok
abbrev lexD (P : Params) (t : LexT) (n : Int) (tn : Tok) (st pb : Addr) : Obj :=
  dictOf [{ hash := PyData.keyHash P (Str.ofString "lineno"), key := .str (Str.ofString "lineno") t.t1, val := .int n tn },
    { hash := PyData.keyHash P (Str.ofString "instream"), key := .str (Str.ofString "instream") t.t2, val := .ref st },
    { hash := PyData.keyHash P (Str.ofString "whitespace"), key := .str (Str.ofString "whitespace") t.t3, val := .str (Str.ofString "\n\t\x0d ") t.t4 },
    { hash := PyData.keyHash P (Str.ofString "pushback"), key := .str (Str.ofString "pushback") t.t5, val := .ref pb }] 4
abbrev strD (P : Params) (t : StrT) (f pb : Addr) : Obj :=
  dictOf [{ hash := PyData.keyHash P (Str.ofString "lineno"), key := .str (Str.ofString "lineno") t.t1, val := .int 1 t.t0 },
    { hash := PyData.keyHash P (Str.ofString "instream"), key := .str (Str.ofString "instream") t.t2, val := .none },
    { hash := PyData.keyHash P (Str.ofString "whitespace"), key := .str (Str.ofString "whitespace") t.t3, val := .str (Str.ofString "\n\t\x0d ") t.t4 },
    { hash := PyData.keyHash P (Str.ofString "pushback"), key := .str (Str.ofString "pushback") t.t5, val := .ref pb },
    { hash := PyData.keyHash P (Str.ofString "read"), key := .str (Str.ofString "read") t.t6, val := .ref f }] 5
/-- what stands still -/
structure Still where
  pb : Addr
  lex : Addr
  dl : Addr
  f : Addr
  c : Addr
  pb2 : Addr
  st : Addr
  ds : Addr
  c2 : Addr
  c1 : Addr
  la : Addr
  k0 : Nat
  k1 : Nat
  k2 : Nat
  lt : LexT
  stt : StrT
  dc : Value
  pm : Value
  ct : Value
  oc : Obj
  o1 : Obj
  o2 : Obj
/-- the lexer's ledger: at place p, line n -/
abbrev LED (P : Params) (z : Still) (n : Int) (tn : Tok) (p : Int) (tp : Tok) (rest : List (Addr × Obj)) : List (Addr × Obj) :=
  (z.pb, listOf #[] z.k0) :: (z.lex, instObj 76 z.dl) :: (z.dl, lexD P z.lt n tn z.st z.pb) :: (z.f, giveO z.c1 z.c2 z.c z.dc z.pm z.ct) :: (z.c, z.oc) :: (z.pb2, listOf #[] z.k1) ::
  (z.st, instObj 76 z.ds) :: (z.ds, strD P z.stt z.f z.pb2) :: (z.c2, z.o2) :: (z.c1, z.o1) :: (z.la, listOf #[.int p tp] z.k2) :: rest
/-- addresses apart -/
def Apart (z : Still) (rest : List (Addr × Obj)) : Prop :=
  OwnOff rest [z.dl, z.la] ∧ (@LT.lt Nat _ z.la z.c1) ∧ (@LT.lt Nat _ z.c1 z.c2) ∧ (@LT.lt Nat _ z.c2 z.ds) ∧ (@LT.lt Nat _ z.ds z.st) ∧ (@LT.lt Nat _ z.st z.pb2) ∧ (@LT.lt Nat _ z.pb2 z.f) ∧ (@LT.lt Nat _ z.f z.dl) ∧ (@LT.lt Nat _ z.dl z.lex) ∧ (@LT.lt Nat _ z.lex z.pb) ∧ (@Ne Nat z.c z.la) ∧ (@Ne Nat z.c z.dl)
def Good (z : Still) (x : Str) : Prop :=
  (∃ vs t, z.oc.data = .fields vs ∧ vs[1]? = some (.str giveQ t)) ∧ (∃ t, z.o1.data = .cell (some (.str x t))) ∧ z.o2.data = .cell (some (.ref z.la))
abbrev piece (x : Str) (q : Nat) : Str := Txt.slice x (some (q : Int)) (some ((q : Int) + 1))
theorem rc_ct {w : World} {p : Program} {loose : List Str} {mean : ExcName → Option Value} {mg mb : Str → Option Value} {gd : Option (List Code)}
    {cn : Str} {cs : Scope} {a : Addr} {ccd : Value} {cl : List (Str × Addr)} {outer : List Env} {A₀ : Around} {base h₀ : Heap} {L : Addr} {m : Str → Option Value} {s : Shared} {Q E : Value → Shared → Prop}
    {z : Still} {x : Str} {n : Int} {tn : Tok} {q : Nat} {tp : Tok} {rest : List (Addr × Obj)}
    (B : Below A₀ base outer h₀) (F : Fr h₀ L s.heap m) (X : (hd.heap_39 w.params).In h₀) (C : CodeHd h₀ 117 113) (N : News h₀ L s.heap (LED w.params z n tn q tp rest)) (T : Top p loose mean mg mb h₀) (hk : cs.kind = .function)
    (hA : Apart z rest) (hG : Good z x) (hx : x.length ≤ 1000000) (hq : q ≤ x.length)
    (ret : ∀ (b : Bool) t' tn' tp' h' tk', (piece x q == Str.ofString "\n") = b → Fr h₀ L h' m → News h₀ L h' (LED w.params z (if b = true then n + 1 else n) tn' ((q : Int) + (piece x q).length) tp' rest) → Q (.str (piece x q) t') { s with heap := h', toks := tk' }) :
    codeAny (model PySem.Challenge.rw_ny0037_01.row.prog w) (ktrTop 310 60 gd cn cs L a ccd cl outer) (.call (.ref 59) ⟨[.ref z.lex], []⟩) (fun r s' => match r with | .ok (.ret v) => Q v s' | .ok _ => False | .error e => E e s') s := by
  w_top off; k_with_none
  revert X; k_fill; intro X
  obtain ⟨pb, lex, dl, f, c, pb2, st, ds, c2, c1, la, k0, k1, k2, lt, stt, dc, pm, ct, oc, o1, o2⟩ := z
  obtain ⟨⟨vs, tq, hoc, hvs⟩, ⟨tx, ho1⟩, ho2⟩ := hG
  obtain ⟨hoff, l1, l2, l3, l4, l5, l6, l7, l8, l9, l10, l11⟩ := hA
  dsimp only [LED, giveO, giveD] at *
  k_dflt cell_enter
  k_steps
  · rename News _ _ _ _ => kN
    rename Fr _ _ _ _ => kF
    rename (_ == _) = true => hb
    exact ret true _ _ _ _ _ hb kF kN
  · rename News _ _ _ _ => kN
    rename Fr _ _ _ _ => kF
    rename (_ == _) = false => hb
    exact ret false _ _ _ _ _ hb kF kN
end Mine
end

-- NX2
noncomputable section
open PySem PySem.W PyProof.Rows
set_option maxRecDepth 100000
namespace Mine
theorem piece_some {x : Str} {q c : Nat} (h : x.cps[q]? = some c) : piece x q = ⟨#[c]⟩ := by
  obtain ⟨hlt, hc⟩ := Array.getElem?_eq_some_iff.mp h
  have hl : x.cps.toList.length = x.cps.size := Array.length_toList
  have e := slice_closes (x := x) (i := (q : Int)) (j := (q : Int) + 1) ⟨by omega, by omega, by omega⟩
  show Txt.slice x (some (q : Int)) (some ((q : Int) + 1)) = _
  rw [eq_of_beq e]
  have e1 : ((q : Int) + 1 - (q : Int)).toNat = 1 := by omega
  rw [e1, Int.toNat_natCast]
  have e2 : x.cps.toList.drop q = c :: x.cps.toList.drop (q + 1) := by
    have hq : q < x.cps.toList.length := by omega
    rw [List.drop_eq_getElem_cons hq]
    simp only [Array.getElem_toList, hc]
  rw [e2]
  rfl
theorem piece_none {x : Str} {q : Nat} (h : q = x.length) : piece x q = Str.ofString "" := by
  subst h
  show Txt.slice x (some (x.length : Int)) (some ((x.length : Int) + 1)) = _
  have e : Builtin.Str.strSliceIndices (some (x.length : Int)) (some ((x.length : Int) + 1)) 1 x.length = [] := by
    unfold Builtin.Str.strSliceIndices sliceRange
    simp only [show (1 : Int) > 0 by decide, if_true]
    simp
    omega
  unfold Txt.slice
  rw [e]
  split
  · rename_i hc
    obtain ⟨⟨l⟩⟩ := x
    simp at hc
    have hx : l = [] := by
      cases l with
      | nil => rfl
      | cons a r => exact absurd hc (by simp [Str.length])
    subst hx
    rfl
  · rfl
theorem one_nl (c : Nat) : ((⟨#[c]⟩ : Str) == Str.ofString "\n") = (c == 10) := by
  have e : Str.ofString "\n" = (⟨#[10]⟩ : Str) := by decide +kernel
  rw [e]
  by_cases h : c = 10
  · subst h; rfl
  · rw [beq_eq_false_iff_ne.mpr h, beq_eq_false_iff_ne.mpr]
    intro q
    injection q with q
    have : [c] = [10] := congrArg Array.toList q
    injection this with h1 h2
    exact h h1

theorem news_sub {h₀ h : Heap} {L : Addr} {news news' : List (Addr × Obj)} (N : News h₀ L h news) (hs : ∀ p ∈ news', p ∈ news) : News h₀ L h news' := fun p hp => N p (hs p hp)
theorem apart_more {z : Still} {rest more : List (Addr × Obj)} (h : Apart z rest) (hm : ∀ p ∈ more, p.1 ≠ z.dl ∧ p.1 ≠ z.la) : Apart z (more ++ rest) := by
  refine ⟨?_, h.2⟩
  intro p hp b hb
  rcases List.mem_append.mp hp with q | q
  · have := hm p q
    simp only [List.mem_cons, List.not_mem_nil, or_false] at hb
    rcases hb with e | e <;> rw [e]
    · exact this.1
    · exact this.2
  · exact h.1 p q b hb
section
variable {w : World} {p : Program} {loose : List Str} {mean : ExcName → Option Value} {mg mb : Str → Option Value} {gd : Option (List Code)}
    {cn : Str} {cs : Scope} {a : Addr} {ccd : Value} {cl : List (Str × Addr)} {outer : List Env} {A₀ : Around} {base h₀ : Heap} {L : Addr} {m : Str → Option Value} {s : Shared}
    {z : Still} {x : Str} {n : Int} {tn : Tok} {q c : Nat} {tp : Tok} {rest : List (Addr × Obj)} {dp un : Nat}
/-- one sign read by a call of _read_char -/
theorem rc_item {Q E : Value → Shared → Prop} (B : Below A₀ base outer h₀) (F : Fr h₀ L s.heap m) (X : (hd.heap_39 w.params).In h₀) (C : CodeHd h₀ 117 113) (N : News h₀ L s.heap (LED w.params z n tn q tp rest)) (T : Top p loose mean mg mb h₀) (hk : cs.kind = .function)
    (hA : Apart z rest) (hG : Good z x) (hx : x.length ≤ 1000000) (hc : x.cps[q]? = some c)
    (ret : ∀ t' tn' tp' h' tk', Fr h₀ L h' m → News h₀ L h' (LED w.params z (if c = 10 then n + 1 else n) tn' ((q + 1 : Nat) : Int) tp' rest) → Q (.str ⟨#[c]⟩ t') { s with heap := h', toks := tk' }) :
    codeAny (model PySem.Challenge.rw_ny0037_01.row.prog w) (ktrTop 310 60 gd cn cs L a ccd cl outer) (.call (.ref 59) ⟨[.ref z.lex], []⟩) (fun r s' => match r with | .ok (.ret v) => Q v s' | .ok _ => False | .error e => E e s') s := by
  refine rc_ct B F X C N T hk hA hG hx (by have := (Array.getElem?_eq_some_iff.mp hc).1; show q ≤ x.cps.size; omega) ?_
  intro b t' tn' tp' h' tk' hb F' N'
  rw [piece_some hc] at hb N' ⊢
  rw [one_nl] at hb
  have e1 : ((⟨#[c]⟩ : Str).length : Int) = 1 := rfl
  rw [e1] at N'
  have e2 : (if b = true then n + 1 else n) = (if c = 10 then n + 1 else n) := by
    subst hb
    by_cases h : c = 10 <;> simp [h]
  rw [e2] at N'
  exact ret t' tn' tp' h' tk' F' N'
theorem rc_end {Q E : Value → Shared → Prop} (B : Below A₀ base outer h₀) (F : Fr h₀ L s.heap m) (X : (hd.heap_39 w.params).In h₀) (C : CodeHd h₀ 117 113) (N : News h₀ L s.heap (LED w.params z n tn q tp rest)) (T : Top p loose mean mg mb h₀) (hk : cs.kind = .function)
    (hA : Apart z rest) (hG : Good z x) (hx : x.length ≤ 1000000) (hc : q = x.length)
    (ret : ∀ t' tn' tp' h' tk', Fr h₀ L h' m → News h₀ L h' (LED w.params z n tn' q tp' rest) → Q (.str (Str.ofString "") t') { s with heap := h', toks := tk' }) :
    codeAny (model PySem.Challenge.rw_ny0037_01.row.prog w) (ktrTop 310 60 gd cn cs L a ccd cl outer) (.call (.ref 59) ⟨[.ref z.lex], []⟩) (fun r s' => match r with | .ok (.ret v) => Q v s' | .ok _ => False | .error e => E e s') s := by
  refine rc_ct B F X C N T hk hA hG hx (by omega) ?_
  intro b t' tn' tp' h' tk' hb F' N'
  rw [piece_none hc] at hb N' ⊢
  have e0 : b = false := hb.symm.trans (by decide +kernel)
  subst e0
  have e1 : ((Str.ofString "").length : Int) = 0 := rfl
  rw [e1, Int.add_zero] at N'
  exact ret t' tn' tp' h' tk' F' N'
end
end Mine
end

-- NX3
noncomputable section
open PySem PySem.W PyProof.Rows
set_option maxRecDepth 100000
namespace Mine
theorem codeAny_le {M : Model} {A A' : Around} {c : Code} {R : Result → Shared → Prop} {s : Shared} (h : codeAny M A' c R s)
    (hh : A.handled = A'.handled) (hd : A.depth ≤ A'.depth) (hf : A.frames = A'.frames) (hg : A.guards = A'.guards) (hu : A.units ≤ A'.units) : codeAny M A c R s :=
  fun Γ p hc hΓ => h Γ p hc ⟨hΓ.1.trans hh, Nat.le_trans hΓ.2.1 hd, fun l hl => hΓ.2.2.1 l (hf.trans hl), fun g hg' => hΓ.2.2.2.1 g (hg.trans hg'), Nat.le_trans hΓ.2.2.2.2 hu⟩
theorem mem_two {α : Type} {a b p : α} {l r : List α} : p ∈ l ++ (a :: b :: r) ↔ p ∈ a :: b :: (l ++ r) :=
  (List.perm_middle.trans (List.Perm.cons a List.perm_middle)).mem_iff
abbrev ledL (P : Params) (z : Still) (n : Int) (tn : Tok) (p : Int) (tp : Tok) : List (Addr × Obj) := LED P z n tn p tp []
theorem led_eq (P : Params) (z : Still) (n : Int) (tn : Tok) (p : Int) (tp : Tok) (rest : List (Addr × Obj)) : LED P z n tn p tp rest = ledL P z n tn p tp ++ rest := rfl
theorem led_in {h₀ h : Heap} {L : Addr} {P : Params} {z : Still} {n : Int} {tn : Tok} {q : Int} {tp : Tok} {rest : List (Addr × Obj)} {e f : Addr × Obj} (N : News h₀ L h (e :: f :: LED P z n tn q tp rest)) : News h₀ L h (LED P z n tn q tp (e :: f :: rest)) :=
  fun _ hp => N _ ((mem_two (l := ledL P z n tn q tp)).mp hp)
theorem led_out {h₀ h : Heap} {L : Addr} {P : Params} {z : Still} {n : Int} {tn : Tok} {q : Int} {tp : Tok} {rest : List (Addr × Obj)} {e f : Addr × Obj} (N : News h₀ L h (LED P z n tn q tp (e :: f :: rest))) : News h₀ L h (e :: f :: LED P z n tn q tp rest) :=
  fun _ hp => N _ ((mem_two (l := ledL P z n tn q tp)).mpr hp)
abbrev itO (bm : Addr) (te : Tok) : Obj := ciObj (.ref bm) (.str (Str.ofString "") te) false
abbrev endO : Obj := ciObj .none .none true
theorem fn59 (P : Params) : ∃ o fd, (hd.heap_39 P).lookup 59 = some o ∧ o.data = .func fd := ⟨_, _, rfl, rfl⟩
section
variable {w : World} {p : Program} {loose : List Str} {mean : ExcName → Option Value} {mg mb : Str → Option Value} {gd : Option (List Code)}
    {cn : Str} {cs : Scope} {a : Addr} {ccd : Value} {cl : List (Str × Addr)} {outer : List Env} {A₀ : Around} {base h₀ : Heap} {L : Addr} {m : Str → Option Value} {s : Shared}
    {z : Still} {x : Str} {n : Int} {tn : Tok} {q c : Nat} {tp te : Tok} {rest : List (Addr × Obj)} {dp un : Nat} {it bm : Addr}
theorem apart_it (hA : Apart z rest) (hb : @LT.lt Nat _ z.pb bm) (hi : @LT.lt Nat _ bm it) : Apart z ((it, itO bm te) :: (bm, methodObj (.ref 59) (.ref z.lex)) :: rest) := by
  obtain ⟨h0, h1, h2, h3, h4, h5, h6, h7, h8, h9, h10⟩ := id hA
  refine apart_more (more := [(it, itO bm te), (bm, methodObj (.ref 59) (.ref z.lex))]) hA ?_
  intro p hp
  simp only [List.mem_cons, List.not_mem_nil, or_false] at hp
  rcases hp with e | e <;> rw [e]
  · exact ⟨Nat.ne_of_gt (by omega), Nat.ne_of_gt (by omega)⟩
  · exact ⟨Nat.ne_of_gt (by omega), Nat.ne_of_gt (by omega)⟩
theorem nx_item {Q : Option Value → Shared → Prop} {E : Value → Shared → Prop} (B : Below A₀ base outer h₀) (F : Fr h₀ L s.heap m) (X : (hd.heap_39 w.params).In h₀) (C : CodeHd h₀ 117 113)
    (N : News h₀ L s.heap ((it, itO bm te) :: (bm, methodObj (.ref 59) (.ref z.lex)) :: LED w.params z n tn q tp rest)) (T : Top p loose mean mg mb h₀) (hk : cs.kind = .function)
    (hA : Apart z rest) (hG : Good z x) (hb : @LT.lt Nat _ z.pb bm) (hi : @LT.lt Nat _ bm it) (hx : x.length ≤ 1000000) (hc : x.cps[q]? = some c) (hdp : dp ≤ 310) (hun : un + 1 ≤ 60)
    (ret : ∀ t' tn' tp' h' tk', Fr h₀ L h' m → News h₀ L h' ((it, itO bm te) :: (bm, methodObj (.ref 59) (.ref z.lex)) :: LED w.params z (if c = 10 then n + 1 else n) tn' ((q + 1 : Nat) : Int) tp' rest) → Q (some (.str ⟨#[c]⟩ t')) { s with heap := h', toks := tk' }) :
    wpAny (model PySem.Challenge.rw_ny0037_01.row.prog w) (ktrTop dp un gd cn cs L a ccd cl outer) (pyNext (.ref it)) Q E s := by
  obtain ⟨o, fd, hl, hfd⟩ := fn59 w.params
  have h59 := X _ _ hl
  refine ci_next (bm := bm) (fn := 59) (self := .ref z.lex) (snt := Str.ofString "") (t := te) rfl (N.get (.head _)) (N.get (.tail _ (.head _))) (F.keep _ _ h59) hfd ?_
  refine codeAny_le (A' := ktrTop 310 60 gd cn cs L a ccd cl outer) ?_ rfl hdp rfl rfl hun
  refine rc_item (E := fun _ _ => False) B F X C (led_in N) T hk (apart_it hA hb hi) hG hx hc ?_
  intro t' tn' tp' h' tk' F' N'
  have N2 := led_out N'
  refine ⟨_, _, rfl, N2.get (.head _), N2.get (.tail _ (.head _)), F'.keep _ _ h59, fun _ => ret t' tn' tp' h' tk' F' N2, fun e => ?_⟩
  exact absurd (congrArg Str.length e) (by show ¬ (1 = 0); omega)
theorem nx_none {Q : Option Value → Shared → Prop} {E : Value → Shared → Prop} (B : Below A₀ base outer h₀) (F : Fr h₀ L s.heap m) (X : (hd.heap_39 w.params).In h₀) (C : CodeHd h₀ 117 113)
    (N : News h₀ L s.heap ((it, itO bm te) :: (bm, methodObj (.ref 59) (.ref z.lex)) :: LED w.params z n tn q tp rest)) (T : Top p loose mean mg mb h₀) (hk : cs.kind = .function)
    (hA : Apart z rest) (hG : Good z x) (hb : @LT.lt Nat _ z.pb bm) (hi : @LT.lt Nat _ bm it) (hx : x.length ≤ 1000000) (hc : q = x.length) (hdp : dp ≤ 310) (hun : un + 1 ≤ 60)
    (hoff : ∀ p ∈ (bm, methodObj (.ref 59) (.ref z.lex)) :: LED w.params z n tn q tp rest, p.1 ≠ it)
    (ret : ∀ tn' tp' h' tk', Fr h₀ L h' m → News h₀ L h' ((it, endO) :: (bm, methodObj (.ref 59) (.ref z.lex)) :: LED w.params z n tn' q tp' rest) → Q none { s with heap := h', toks := tk' }) :
    wpAny (model PySem.Challenge.rw_ny0037_01.row.prog w) (ktrTop dp un gd cn cs L a ccd cl outer) (pyNext (.ref it)) Q E s := by
  obtain ⟨o, fd, hl, hfd⟩ := fn59 w.params
  have h59 := X _ _ hl
  have hitL := (N _ (.head _)).2.1
  have hit0 := (N _ (.head _)).2.2
  refine ci_next (bm := bm) (fn := 59) (self := .ref z.lex) (snt := Str.ofString "") (t := te) rfl (N.get (.head _)) (N.get (.tail _ (.head _))) (F.keep _ _ h59) hfd ?_
  refine codeAny_le (A' := ktrTop 310 60 gd cn cs L a ccd cl outer) ?_ rfl hdp rfl rfl hun
  refine rc_end (E := fun _ _ => False) B F X C (led_in N) T hk (apart_it hA hb hi) hG hx hc ?_
  intro t' tn' tp' h' tk' F' N'
  have N2 := led_out N'
  refine ⟨_, _, rfl, N2.get (.head _), N2.get (.tail _ (.head _)), F'.keep _ _ h59, fun e => absurd rfl e, fun _ h₂ hext hend => ?_⟩
  refine ret tn' tp' h₂ tk' ⟨F'.ns.extBut hext (Ne.symm hitL), fun b ob e => hext b ob (fun q => ?_) (F'.keep b ob e), F'.above⟩ ?_
  · rw [q, hit0] at e; cases e
  · intro r hr
    rcases List.mem_cons.mp hr with e | hr'
    · rw [e]; exact ⟨hend, hitL, hit0⟩
    · have y := N2 r (.tail _ hr')
      refine ⟨hext _ _ ?_ y.1, y.2⟩
      have ha : ∀ p ∈ (bm, methodObj (.ref 59) (.ref z.lex)) :: LED w.params z n tn' q tp' rest, p.1 ∈ ((bm, methodObj (.ref 59) (.ref z.lex)) :: LED w.params z n tn q tp rest).map (·.1) := by
        intro p hp
        have : p.1 ∈ ((bm, methodObj (.ref 59) (.ref z.lex)) :: LED w.params z n tn' q tp' rest).map (·.1) := List.mem_map_of_mem hp
        exact this
      obtain ⟨p', hp', e⟩ := List.mem_map.mp (ha r hr')
      rw [← e]
      exact hoff p' hp'
end
end Mine
end

-- GT0
noncomputable section
open PySem PySem.W PyProof.Rows
set_option maxRecDepth 100000
namespace Mine
def gtOf : Stmt → Option (List Stmt × Scope)
  | .ClassDef _ _ _ (_ :: _ :: .FunctionDef _ _ b _ _ _ sc _ _ _ :: _) _ _ _ _ _ _ _ => some (b, sc)
  | _ => none
def gtD : { d : List Stmt × Scope // (PySem.Challenge.pw_ny0037_01.main.body[3]?).bind gtOf = some d } := ⟨_, rfl⟩
def gtIn : List Stmt → Option (List Stmt)
  | _ :: _ :: _ :: .For _ _ (_ :: .If _ (.For _ _ b2 _ _ :: _) _ _ :: _) _ _ :: _ => some b2
  | _ => none
def gtI : { d : List Stmt // gtIn gtD.1.1 = some d } := ⟨_, rfl⟩
abbrev gtEnv (L : Addr) : Env := envOf (Str.ofString "_netrclex.get_token") gtD.1.2 L 66 (.ref 65)
end Mine
end

-- GT1
noncomputable section
open PySem PySem.W PyProof.Rows
set_option maxRecDepth 100000
namespace Mine
theorem args_iter2 (a b : Value) : argsOk "iter" ⟨[a, b], []⟩ := by unfold argsOk; kernel_rfl
theorem meth_call : typeLookup (.type "method") "__call__" = pure (some (.builtin "method.__call__")) := by rw [typeLookup_type, builtinLookup_eq_fast]; kernel_rfl
section
variable {prog : Program} {w : World} {A : Around} {E : Value → Shared → Prop} {s : Shared} {h₀ : Heap} {L : Addr} {m : Str → Option Value} {news : List (Addr × Obj)}
theorem iter_two {bm : Addr} {f self : Value} {snt : Str} {te : Tok} {Q : Value → Shared → Prop} (F : Fr h₀ L s.heap m) (N : News h₀ L s.heap news) (hm : (bm, methodObj f self) ∈ news)
    (h : ∀ it h', Fr h₀ L h' m → News h₀ L h' ((it, ciObj (.ref bm) (.str snt te) false) :: news) → (∀ p ∈ news, p.1 < it) → Q (.ref it) { s with heap := h' }) :
    wpAny (model prog w) A (call (.builtin "iter") [.ref bm, .str snt te]) Q E s := by
  refine Calls.call_function_entry (by decide +kernel) (by decide +kernel) kdk_entry_iter (args_iter2 _ _) ?_
  have hr := meth_call
  have hb := N.get hm
  show wpAny _ _ (specialOf (.ref bm) "__call__" >>= _) _ _ s
  refine wpAny_bind (wpAny_specialOf ⟨_, hb, rfl⟩ hr ?_)
  show wpAny _ _ (rule _ >>= _) _ _ s
  refine wpAny_bind (wpAny_rule ?_)
  refine wpAny_bind (wpAny_newObj_type ?_ (by size_fits))
  refine wpAny_pure ⟨_, rfl, h _ _ (F.push _) (News.push F N _) (fun p hp => Heap.lt_size (N p hp).1)⟩
theorem pyIter_ci {it : Addr} {f e : Value} {b : Bool} {Q : Value → Shared → Prop} (hit : s.heap.get? it = some (ciObj f e b)) (h : Q (.ref it) s) : wpAny (model prog w) A (pyIter (.ref it)) Q E s := by
  have hT : s.TypeIs (.ref it) "callable_iterator" := ⟨_, hit, rfl⟩
  refine wpAny_pyIter_slot hT slot_ci_iter (wpAny_call_entry slot_ci_iter hT entry_ci_iter ?_ (args_ci_iter _))
  exact wpAny_pure ⟨_, rfl, "callable_iterator", _, hT, slot_ci_next.lookup, h⟩
def RestAt (prog : Program) (w : World) (A : Around) (E : Value → Shared → Prop) (env : Env) (v : Str) (body : List Stmt) (Q : Flow → Shared → Prop) (n : Nat) (it : Value) (s₂ : Shared) : Prop :=
  ∃ I, it = .ref I ∧ OwitRest prog w A E env v body Q I n s₂
/-- a for by what holds of its iterator's address, a measure and the state -/
theorem for_inv {env : Env} {v : Str} {px pos : Pos} {iter : Expr} {body : List Stmt} {Q : Flow → Shared → Prop} (J : Addr → Nat → Shared → Prop)
    (h : wpAny (model prog w) A (eval iter env) (fun xv s₁ => wpAny (model prog w) A (pyIter xv) (fun it s₂ => ∃ a n, it = .ref a ∧ J a n s₂) E s₁) E s)
    (turn : ∀ a k s', J a k s' → wpAny (model prog w) A (pyNext (.ref a)) (OwitTurn prog w A E env v body Q (fun s₃ => ∃ j, j < k ∧ J a j s₃)) E s')
    (hs : ∀ x, foldedSetIterable iter env x = pure x) (hE : PassesOwn (model prog w) A env E) :
    wpAny (model prog w) A (exec (.For (.Name v px) iter body [] pos) env) Q E s := by
  have loop : ∀ a n s₂, J a n s₂ → codeAny (model prog w) A (.forLoop (.Name v px) (.ref a) body [] env)
      (fun r s' => match r with | .ok f => Q f s' | .error e => cameBackBy (model prog w) A env E e s') s₂ := by
    intro a n s₂ hJ
    apply codeAny_forLoop (J a) _ n hJ
    intro k s₃ hk
    apply wpAny_passesOwn hE
    apply wpAny_mono (turn a k s₃ hk) _ (fun _ _ e => e)
    rintro (_ | y) s₄ h₄
    · exact wpAny_execs_nil h₄
    · apply wpAny_passesOwn hE
      apply wpAny_assign_Name
      apply wpAny_mono h₄ _ (fun _ _ e => e)
      intro _ s₅ h₅
      apply wpAny_passesOwn hE
      apply wpAny_mono h₅ _ (fun _ _ e => e)
      intro f s₆ h₆
      cases f <;> exact h₆
  apply wpAny_For _ hs
  apply wpAny_mono h _ (fun _ _ e => e)
  intro xv s₁ h₁
  apply wpAny_mono h₁ _ (fun _ _ e => e)
  rintro it s₂ ⟨a, n, rfl, hJ⟩
  exact loop a n s₂ hJ
/-- a for whose turns are counted ahead -/
theorem for_n {env : Env} {v : Str} {px pos : Pos} {iter : Expr} {body : List Stmt} {Q : Flow → Shared → Prop} (n : Nat)
    (h : wpAny (model prog w) A (eval iter env) (fun xv s₁ => wpAny (model prog w) A (pyIter xv) (RestAt prog w A E env v body Q n) E s₁) E s)
    (hs : ∀ x, foldedSetIterable iter env x = pure x := by intro _; rfl) (hE : PassesOwn (model prog w) A env E := by passes_own) :
    wpAny (model prog w) A (exec (.For (.Name v px) iter body [] pos) env) Q E s := by
  apply for_inv (fun a k s' => OwitRest prog w A E env v body Q a k s') _ _ hs hE
  · apply wpAny_mono h _ (fun _ _ e => e)
    intro xv s₁ h₁
    apply wpAny_mono h₁ _ (fun _ _ e => e)
    rintro it s₂ ⟨a, rfl, hr⟩
    exact ⟨a, n, rfl, hr⟩
  · intro a k s' hk
    cases k with
    | zero => exact hk.elim
    | succ k =>
      apply wpAny_mono (show wpAny (model prog w) A (pyNext (.ref a)) (OwitTurn prog w A E env v body Q (OwitRest prog w A E env v body Q a k)) E s' from hk) _ (fun _ _ e => e)
      rintro (_ | y) s₄ h₄
      · exact h₄
      · apply wpAny_mono h₄ _ (fun _ _ e => e)
        intro _ s₅ h₅
        apply wpAny_mono h₅ _ (fun _ _ e => e)
        intro f s₆ h₆
        cases f
        case next => exact ⟨k, Nat.lt_succ_self k, h₆⟩
        case cont => exact ⟨k, Nat.lt_succ_self k, h₆⟩
        case brk => exact h₆
        case ret => exact h₆
end
end Mine
end

-- GT2
noncomputable section
open PySem PySem.W PyProof.Rows
set_option maxRecDepth 100000
set_option maxHeartbeats 8000000
namespace Mine
noncomputable def escL : List Nat → List Nat
  | [] => []
  | c :: r => if c = 34 ∨ c = 92 then 92 :: c :: escL r else c :: escL r
abbrev gtM (z : Still) (it : Addr) (u : Option Value) (tok : Str) (tt : Tok) : Str → Option Value := fun y => if y = Str.ofString "ch" then u else if y = Str.ofString "token" then some (.str tok tt) else if y = Str.ofString "fiter" then some (.ref it) else if y = Str.ofString "self" then some (.ref z.lex) else none
section
variable {w : World} {p : Program} {loose : List Str} {mean : ExcName → Option Value} {mg mb : Str → Option Value} {gd : Option (List Code)}
    {cn : Str} {cs : Scope} {a : Addr} {ccd : Value} {cl : List (Str × Addr)} {outer : List Env} {A₀ : Around} {base h₀ : Heap} {L : Addr} {m : Str → Option Value} {s : Shared}
    {z : Still} {x : Str} {n : Int} {tn : Tok} {q c : Nat} {tp te : Tok} {rest : List (Addr × Obj)} {dp un : Nat} {it bm : Addr}
theorem rc_item2 {Q E : Value → Shared → Prop} (B : Below A₀ base outer h₀) (F : Fr h₀ L s.heap m) (X : (hd.heap_39 w.params).In h₀) (C : CodeHd h₀ 117 113)
    (N : News h₀ L s.heap ((it, itO bm te) :: (bm, methodObj (.ref 59) (.ref z.lex)) :: LED w.params z n tn q tp rest)) (T : Top p loose mean mg mb h₀) (hk : cs.kind = .function)
    (hA : Apart z rest) (hG : Good z x) (hb : @LT.lt Nat _ z.pb bm) (hi : @LT.lt Nat _ bm it) (hx : x.length ≤ 1000000) (hc : x.cps[q]? = some c) (hdp : dp ≤ 310) (hun : un ≤ 60)
    (ret : ∀ t' tn' tp' h' tk', Fr h₀ L h' m → News h₀ L h' ((it, itO bm te) :: (bm, methodObj (.ref 59) (.ref z.lex)) :: LED w.params z (if c = 10 then n + 1 else n) tn' ((q + 1 : Nat) : Int) tp' rest) → Q (.str ⟨#[c]⟩ t') { s with heap := h', toks := tk' }) :
    wpAny (model PySem.Challenge.rw_ny0037_01.row.prog w) (ktrTop dp un gd cn cs L a ccd cl outer) (call (.ref 59) [.ref z.lex]) Q E s :=
  wpAny_call (codeAny_le (A' := ktrTop 310 60 gd cn cs L a ccd cl outer) (rc_item B F X C (led_in N) T hk (apart_it hA hb hi) hG hx hc fun t' tn' tp' h' tk' F' N' => ret t' tn' tp' h' tk' F' (led_out N')) rfl hdp rfl rfl hun)
theorem gt_end {outer : List Env} {Q : Flow → Shared → Prop} {E : Value → Shared → Prop} {done : Str} {tt : Tok} {u : Option Value}
    (B : Below A₀ base outer h₀) (F : Fr h₀ L s.heap (gtM z it u done tt)) (X : (hd.heap_39 w.params).In h₀) (C : CodeHd h₀ 117 113)
    (N : News h₀ L s.heap ((it, itO bm te) :: (bm, methodObj (.ref 59) (.ref z.lex)) :: LED w.params z n tn q tp rest)) (T : Top p loose mean mg mb h₀)
    (hA : Apart z rest) (hG : Good z x) (hb : @LT.lt Nat _ z.pb bm) (hi : @LT.lt Nat _ bm it) (hx : x.length ≤ 1000000) (hc : x.cps[q]? = some 34)
    (ret : ∀ t' m' tn' tp' h' tk', Fr h₀ L h' m' → News h₀ L h' ((it, itO bm te) :: (bm, methodObj (.ref 59) (.ref z.lex)) :: LED w.params z n tn' ((q + 1 : Nat) : Int) tp' rest) → Q (.ret (.str done t')) { s with heap := h', toks := tk' }) {k : Nat} :
    OwitRest PySem.Challenge.rw_ny0037_01.row.prog w (ktrTop 303 10 gd (Str.ofString "_netrclex.get_token") gtD.1.2 L 66 (.ref 65) [] outer) E (gtEnv L) (Str.ofString "ch") gtI.1 Q it (k + 1) s := by
  w_top off; k_with_none
  revert X; k_fill; intro X
  refine OwitRest.succ ?_
  refine nx_item B F X C N T rfl hA hG hb hi hx hc (by decide) (by decide) ?_
  intro t' tn' tp' h' tk' F' N'
  clear F N
  dsimp only [OwitTurn, gtD, gtI]
  k_steps
  rename News _ _ _ _ => kN
  rename Fr _ _ _ _ => kF
  exact ret _ _ _ _ _ _ kF kN
theorem fr_eq {h : Heap} {m m' : Str → Option Value} (F : Fr h₀ L h m) (e : ∀ y, m y = m' y) : Fr h₀ L h m' := (funext e : m = m') ▸ F
theorem gtM_back {it : Addr} {u : Option Value} {t0 : Str} {tt0 : Tok} {tok : Str} {tt : Tok} {v : Option Value} (y : Str) :
    (if y = Str.ofString "token" then some (Value.str tok tt) else if y = Str.ofString "ch" then v else gtM z it u t0 tt0 y) = gtM z it v tok tt y := by
  by_cases h1 : y = Str.ofString "token"
  · subst h1; rfl
  · by_cases h2 : y = Str.ofString "ch"
    · subst h2; rfl
    · simp only [if_neg h1, if_neg h2]
theorem one_ne {c d : Nat} (h : c ≠ d) : ((⟨#[c]⟩ : Str) == ⟨#[d]⟩) = false := by
  rw [beq_eq_false_iff_ne]
  intro q
  injection q with q
  have : [c] = [d] := congrArg Array.toList q
  injection this with h1 h2
  exact h h1
theorem gt_plain {outer : List Env} {Q : Flow → Shared → Prop} {E : Value → Shared → Prop} {done : Str} {tt : Tok} {u : Option Value}
    (B : Below A₀ base outer h₀) (F : Fr h₀ L s.heap (gtM z it u done tt)) (X : (hd.heap_39 w.params).In h₀) (C : CodeHd h₀ 117 113)
    (N : News h₀ L s.heap ((it, itO bm te) :: (bm, methodObj (.ref 59) (.ref z.lex)) :: LED w.params z n tn q tp rest)) (T : Top p loose mean mg mb h₀)
    (hA : Apart z rest) (hG : Good z x) (hb : @LT.lt Nat _ z.pb bm) (hi : @LT.lt Nat _ bm it) (hx : x.length ≤ 1000000) (hdone : done.length ≤ 1000000) (hc : x.cps[q]? = some c) (h34 : c ≠ 34) (h92 : c ≠ 92) {k : Nat}
    (ih : ∀ t' u' tn' tp' h' tk', Fr h₀ L h' (gtM z it u' (done ++ ⟨#[c]⟩) t') → News h₀ L h' ((it, itO bm te) :: (bm, methodObj (.ref 59) (.ref z.lex)) :: LED w.params z (if c = 10 then n + 1 else n) tn' ((q + 1 : Nat) : Int) tp' rest) →
      OwitRest PySem.Challenge.rw_ny0037_01.row.prog w (ktrTop 303 10 gd (Str.ofString "_netrclex.get_token") gtD.1.2 L 66 (.ref 65) [] outer) E (gtEnv L) (Str.ofString "ch") gtI.1 Q it k { s with heap := h', toks := tk' }) :
    OwitRest PySem.Challenge.rw_ny0037_01.row.prog w (ktrTop 303 10 gd (Str.ofString "_netrclex.get_token") gtD.1.2 L 66 (.ref 65) [] outer) E (gtEnv L) (Str.ofString "ch") gtI.1 Q it (k + 1) s := by
  w_top off; k_with_none
  revert X; k_fill; intro X
  refine OwitRest.succ ?_
  refine nx_item B F X C N T rfl hA hG hb hi hx hc (by decide) (by decide) ?_
  intro t' tn' tp' h' tk' F' N'
  clear F N
  have e34 : ((⟨#[c]⟩ : Str) == Str.ofString "\"") = false := one_ne h34
  have e92 : ((⟨#[c]⟩ : Str) == Str.ofString "\\") = false := one_ne h92
  dsimp only [OwitTurn, gtD, gtI]
  dsimp only [gtD, gtI] at ih
  k_steps
  rename News _ _ _ _ => kN
  rename Fr _ _ _ _ => kF
  exact ih _ _ _ _ _ _ (fr_eq kF gtM_back) kN
local macro_rules | `(tactic| walk_at "call ref") => `(tactic| (k_here; (show wpAny _ _ (call (Value.ref 59) _) _ _ _); k_dflt (refine' rc_item2 ?k1 ?k2 ?k3 ?k4 ?k5 ?k6 rfl ?k7 ?k8 ?k9 ?k10 ?k11 ?k12 ?k13 ?k14 ?_; (case k1 => k_asm); (case k2 => k_asm); (case k3 => k_asm); (case k4 => k_asm); (case k5 => k_asm); (case k6 => k_asm); (case k7 => assumption); (case k8 => assumption); (case k9 => assumption); (case k10 => assumption); (case k11 => assumption); (case k12 => assumption); (case k13 => decide); (case k14 => decide); k_whole); intro t' tn' tp' h' tk' F' N'; (try dsimp only); (try k_fold)))
theorem gtM_back2 {it : Addr} {u : Option Value} {t0 : Str} {tt0 : Tok} {tok : Str} {tt : Tok} {v v2 : Option Value} (y : Str) :
    (if y = Str.ofString "token" then some (Value.str tok tt) else if y = Str.ofString "ch" then v else if y = Str.ofString "ch" then v2 else gtM z it u t0 tt0 y) = gtM z it v tok tt y := by
  by_cases h1 : y = Str.ofString "token"
  · subst h1; rfl
  · by_cases h2 : y = Str.ofString "ch"
    · subst h2; rfl
    · simp only [if_neg h1, if_neg h2]
theorem gt_esc {outer : List Env} {Q : Flow → Shared → Prop} {E : Value → Shared → Prop} {done : Str} {tt : Tok} {u : Option Value}
    (B : Below A₀ base outer h₀) (F : Fr h₀ L s.heap (gtM z it u done tt)) (X : (hd.heap_39 w.params).In h₀) (C : CodeHd h₀ 117 113)
    (N : News h₀ L s.heap ((it, itO bm te) :: (bm, methodObj (.ref 59) (.ref z.lex)) :: LED w.params z n tn q tp rest)) (T : Top p loose mean mg mb h₀)
    (hA : Apart z rest) (hG : Good z x) (hb : @LT.lt Nat _ z.pb bm) (hi : @LT.lt Nat _ bm it) (hx : x.length ≤ 1000000) (hdone : done.length ≤ 1000000) (hc0 : x.cps[q]? = some 92) (hc : x.cps[q + 1]? = some c) {k : Nat}
    (ih : ∀ t' u' tn' tp' h' tk', Fr h₀ L h' (gtM z it u' (done ++ ⟨#[c]⟩) t') → News h₀ L h' ((it, itO bm te) :: (bm, methodObj (.ref 59) (.ref z.lex)) :: LED w.params z (if c = 10 then n + 1 else n) tn' ((q + 1 + 1 : Nat) : Int) tp' rest) →
      OwitRest PySem.Challenge.rw_ny0037_01.row.prog w (ktrTop 303 10 gd (Str.ofString "_netrclex.get_token") gtD.1.2 L 66 (.ref 65) [] outer) E (gtEnv L) (Str.ofString "ch") gtI.1 Q it k { s with heap := h', toks := tk' }) :
    OwitRest PySem.Challenge.rw_ny0037_01.row.prog w (ktrTop 303 10 gd (Str.ofString "_netrclex.get_token") gtD.1.2 L 66 (.ref 65) [] outer) E (gtEnv L) (Str.ofString "ch") gtI.1 Q it (k + 1) s := by
  w_top off; k_with_none
  revert X; k_fill; intro X
  refine OwitRest.succ ?_
  refine nx_item B F X C N T rfl hA hG hb hi hx hc0 (by decide) (by decide) ?_
  intro t' tn' tp' h' tk' F' N'
  clear F N
  simp only [show ¬ ((92 : Nat) = 10) by decide, if_false] at N'
  dsimp only [OwitTurn, gtD, gtI]
  dsimp only [gtD, gtI] at ih
  k_steps
  rename News _ _ _ _ => kN
  rename Fr _ _ _ _ => kF
  exact ih _ _ _ _ _ _ (fr_eq kF gtM_back2) kN
theorem drop_at {l : List Nat} {q c : Nat} {r : List Nat} (h : l.drop q = c :: r) : l[q]? = some c ∧ l.drop (q + 1) = r := by
  refine ⟨?_, ?_⟩
  · have := congrArg List.head? h
    rw [List.head?_drop] at this
    exact this
  · rw [← List.drop_drop, h]; rfl
theorem str_snoc (done : List Nat) (c : Nat) : (⟨done.toArray⟩ : Str) ++ ⟨#[c]⟩ = ⟨(done ++ [c]).toArray⟩ := by
  show (⟨done.toArray ++ #[c]⟩ : Str) = _
  simp
theorem gt_loop {outer : List Env} {Q : Flow → Shared → Prop} {E : Value → Shared → Prop} {tail : List Nat}
    (B : Below A₀ base outer h₀) (X : (hd.heap_39 w.params).In h₀) (C : CodeHd h₀ 117 113) (T : Top p loose mean mg mb h₀)
    (hA : Apart z rest) (hG : Good z x) (hb : @LT.lt Nat _ z.pb bm) (hi : @LT.lt Nat _ bm it) (hx : x.length ≤ 1000000) :
    ∀ (ys done : List Nat) (tt : Tok) (u : Option Value) (n : Int) (tn : Tok) (q : Nat) (tp : Tok) (s : Shared), x.cps.toList.drop q = escL ys ++ 34 :: tail → done.length + ys.length ≤ 1000000 →
    Fr h₀ L s.heap (gtM z it u ⟨done.toArray⟩ tt) → News h₀ L s.heap ((it, itO bm te) :: (bm, methodObj (.ref 59) (.ref z.lex)) :: LED w.params z n tn q tp rest) →
    (∀ t' m' tn' tp' h' tk', Fr h₀ L h' m' → News h₀ L h' ((it, itO bm te) :: (bm, methodObj (.ref 59) (.ref z.lex)) :: LED w.params z (n + (ys.count 10 : Nat)) tn' ((q + (escL ys).length + 1 : Nat) : Int) tp' rest) → Q (.ret (.str ⟨(done ++ ys).toArray⟩ t')) { s with heap := h', toks := tk' }) →
    OwitRest PySem.Challenge.rw_ny0037_01.row.prog w (ktrTop 303 10 gd (Str.ofString "_netrclex.get_token") gtD.1.2 L 66 (.ref 65) [] outer) E (gtEnv L) (Str.ofString "ch") gtI.1 Q it (ys.length + 1) s := by
  intro ys
  induction ys with
  | nil =>
    intro done tt u n tn q tp s hd hl F N ret
    have h1 := (drop_at (c := 34) hd).1
    rw [Array.getElem?_toList] at h1
    refine gt_end B F X C N T hA hG hb hi hx h1 ?_
    intro t' m' tn' tp' h' tk' F' N'
    have e := ret t' m' tn' tp' h' tk' F'
    simp only [List.append_nil, List.count_nil, escL, List.length_nil, Nat.add_zero] at e
    have e0 : n + ((0 : Nat) : Int) = n := Int.add_zero n
    rw [e0] at e
    exact e N'
  | cons c ys ih =>
    intro done tt u n tn q tp s hd hl F N ret
    have hlen : (⟨done.toArray⟩ : Str).length ≤ 1000000 := by
      show done.toArray.size ≤ 1000000
      rw [List.size_toArray]
      omega
    have ecount : (if c = 10 then n + 1 else n) + ((ys.count 10 : Nat) : Int) = n + (((c :: ys).count 10 : Nat) : Int) := by
      rw [List.count_cons]
      by_cases h : c = 10
      · simp only [h, if_true, beq_self_eq_true]; omega
      · simp only [h, if_false, beq_eq_false_iff_ne.mpr h, Bool.false_eq_true]; omega
    have edone : done ++ [c] ++ ys = done ++ c :: ys := by simp
    by_cases hs : c = 34 ∨ c = 92
    · have he : escL (c :: ys) = 92 :: c :: escL ys := by simp only [escL, if_pos hs]
      rw [he] at hd
      have h1 := drop_at (c := 92) hd
      have h2 := drop_at (c := c) h1.2
      have h3 := h1.1
      have h4 := h2.1
      rw [Array.getElem?_toList] at h3 h4
      refine gt_esc B F X C N T hA hG hb hi hx hlen h3 h4 ?_
      intro t' u' tn' tp' h' tk' F' N'
      rw [str_snoc] at F'
      refine ih (done ++ [c]) t' u' _ tn' (q + 1 + 1) tp' _ h2.2 (by simp only [List.length_append, List.length_cons, List.length_nil] at hl ⊢; omega) F' N' ?_
      intro t2 m2 tn2 tp2 h2' tk2 F2 N2
      rw [ecount] at N2
      have e := ret t2 m2 tn2 tp2 h2' tk2 F2
      rw [he] at e
      rw [edone]
      have eq : q + (92 :: c :: escL ys).length + 1 = q + 1 + 1 + (escL ys).length + 1 := by simp only [List.length_cons]; omega
      rw [eq] at e
      exact e N2
    · have he : escL (c :: ys) = c :: escL ys := by simp only [escL, if_neg hs]
      rw [he] at hd
      have h1 := drop_at (c := c) hd
      have h3 := h1.1
      rw [Array.getElem?_toList] at h3
      refine gt_plain B F X C N T hA hG hb hi hx hlen h3 (fun e => hs (.inl e)) (fun e => hs (.inr e)) ?_
      intro t' u' tn' tp' h' tk' F' N'
      rw [str_snoc] at F'
      refine ih (done ++ [c]) t' u' _ tn' (q + 1) tp' _ h1.2 (by simp only [List.length_append, List.length_cons, List.length_nil] at hl ⊢; omega) F' N' ?_
      intro t2 m2 tn2 tp2 h2' tk2 F2 N2
      rw [ecount] at N2
      have e := ret t2 m2 tn2 tp2 h2' tk2 F2
      rw [he] at e
      rw [edone]
      have eq : q + (c :: escL ys).length + 1 = q + 1 + (escL ys).length + 1 := by simp only [List.length_cons]; omega
      rw [eq] at e
      exact e N2
end
end Mine
end

-- GT3
noncomputable section
open PySem PySem.W PyProof.Rows
set_option maxRecDepth 100000
set_option maxHeartbeats 8000000
namespace Mine
theorem RestAt.intro {prog : Program} {w : World} {A : Around} {E : Value → Shared → Prop} {env : Env} {v : Str} {body : List Stmt} {Q : Flow → Shared → Prop} {n : Nat} {I : Addr} {s₂ : Shared} (h : OwitRest prog w A E env v body Q I n s₂) : RestAt prog w A E env v body Q n (.ref I) s₂ := ⟨I, rfl, h⟩
section
variable {w : World} {p : Program} {loose : List Str} {mean : ExcName → Option Value} {mg mb : Str → Option Value} {gd : Option (List Code)}
    {outer : List Env} {A₀ : Around} {base h₀ : Heap} {L : Addr} {s : Shared} {z : Still} {x : Str} {n : Int} {tn : Tok} {q : Nat} {tp te : Tok} {rest : List (Addr × Obj)} {it bm : Addr}
theorem gt_for {Q : Flow → Shared → Prop} {E : Value → Shared → Prop} {ys tail : List Nat} {u : Option Value} {tok : Str} {tt : Tok} {px py pos : Pos} {m : Str → Option Value}
    (B : Below A₀ base outer h₀) (F : Fr h₀ L s.heap m) (X : (hd.heap_39 w.params).In h₀) (C : CodeHd h₀ 117 113) (N : News h₀ L s.heap ((it, itO bm te) :: (bm, methodObj (.ref 59) (.ref z.lex)) :: LED w.params z n tn q tp rest)) (T : Top p loose mean mg mb h₀)
    (hm : ∀ y, m y = gtM z it u tok tt y) (htok : tok = ⟨#[]⟩)
    (hA : Apart z rest) (hG : Good z x) (hb : @LT.lt Nat _ z.pb bm) (hi : @LT.lt Nat _ bm it) (hx : x.length ≤ 1000000) (hdr : x.cps.toList.drop q = escL ys ++ 34 :: tail) (hys : ys.length ≤ 1000000)
    (hE : PassesOwn (model PySem.Challenge.rw_ny0037_01.row.prog w) (ktrTop 303 10 gd (Str.ofString "_netrclex.get_token") gtD.1.2 L 66 (.ref 65) [] outer) (gtEnv L) E)
    (ret : ∀ t' m' tn' tp' h' tk', Fr h₀ L h' m' → News h₀ L h' ((it, itO bm te) :: (bm, methodObj (.ref 59) (.ref z.lex)) :: LED w.params z (n + (ys.count 10 : Nat)) tn' ((q + (escL ys).length + 1 : Nat) : Int) tp' rest) → Q (.ret (.str ⟨ys.toArray⟩ t')) { s with heap := h', toks := tk' }) :
    wpAny (model PySem.Challenge.rw_ny0037_01.row.prog w) (ktrTop 303 10 gd (Str.ofString "_netrclex.get_token") gtD.1.2 L 66 (.ref 65) [] outer) (exec (.For (.Name (Str.ofString "ch") px) (.Name (Str.ofString "fiter") py) gtI.1 [] pos) (gtEnv L)) Q E s := by
  subst htok
  have F2 := fr_eq F hm
  refine for_n (ys.length + 1) (ld F2 rfl ?_) (by intro _; rfl) hE
  refine pyIter_ci (N.get (.head _)) (RestAt.intro ?_)
  exact gt_loop B X C T hA hG hb hi hx ys [] tt u n tn q tp s hdr (by simpa using hys) F2 N ret
end
local macro_rules | `(tactic| walk_at "call builtin:iter") => `(tactic| (k_here; k_dflt (refine' iter_two ?k1 ?k2 ?k3 ?_; (case k1 => k_asm); (case k2 => k_asm); (case k3 => k_mem); k_whole); intro it' h' F' N' l1; (try k_lt l1)))
theorem lookup_self {y : Str} {v : Value} (h : y ≠ Str.ofString "self") : List.lookup y [(Str.ofString "self", v)] = none := by
  simp only [List.lookup, beq_eq_false_iff_ne.mpr h]
theorem gt_map3 {z : Still} {it : Addr} {v1 v2 v3 : Option Value} {tok : Str} {tt : Tok} {g : Str → Option Value} (hg : ∀ y, g y = List.lookup y [(Str.ofString "self", Value.ref z.lex)]) (y : Str) :
    (if y = Str.ofString "ch" then v1 else if y = Str.ofString "ch" then v2 else if y = Str.ofString "ch" then v3 else if y = Str.ofString "fiter" then some (Value.ref it) else if y = Str.ofString "token" then some (Value.str tok tt) else g y) = gtM z it v1 tok tt y := by
  by_cases h1 : y = Str.ofString "ch"
  · subst h1; rfl
  · by_cases h2 : y = Str.ofString "token"
    · subst h2; rfl
    · by_cases h3 : y = Str.ofString "fiter"
      · subst h3; rfl
      · by_cases h4 : y = Str.ofString "self"
        · subst h4; rw [hg]; rfl
        · simp only [if_neg h1, if_neg h2, if_neg h3]
          rw [hg, lookup_self h4]
          simp only [gtM, if_neg h1, if_neg h2, if_neg h3, if_neg h4]
local macro_rules | `(tactic| walk_at "exec For Name Name cons nil") => `(tactic| (k_here; (first
  | ((with_reducible show wpAny _ _ (exec (PySem.Stmt.For _ _ (PySem.Stmt.If (PySem.Expr.Compare _ [PySem.CmpOp.In] _ _) _ _ _ :: _) _ _) _) _ _ _); k_dflt (refine for_n 3 ?_))
  | (k_dflt (refine' gt_for ?k1 ?k2 ?k3 ?k4 ?k5 ?k6 ?km ?kt ?k7 ?k8 ?k9 ?k10 ?k11 ?k12 ?k13 ?kE ?_; (case k1 => k_asm); (case k2 => k_asm); (case k3 => k_asm); (case k4 => first | k_asm | exact CodeHd.keeps (by assumption) (Below.stays (by assumption))); (case k5 => k_asm); (case k6 => k_asm); (case k7 => assumption); (case k8 => assumption); (case k9 => first | assumption | omega); (case k10 => first | assumption | omega); (case k11 => assumption); (case k12 => assumption); (case k13 => assumption); (case kE => passes_own); (case km => exact gt_map3 (fun _ => rfl)); (case kt => exact rfl); k_whole); intro t' m' tn' tp' h' tk' F' N'; (try dsimp only); (try k_fold)))))
local macro_rules | `(tactic| walk_at "RestAt") => `(tactic| (refine RestAt.intro ?_))
local macro_rules | `(tactic| walk_at "pyIter ref") => `(tactic| (k_here; k_dflt (refine' pyIter_ci ?k1 ?_; (case k1 => exact News.get (by assumption) (by k_mem)); k_whole)))
local macro_rules | `(tactic| walk_at "ite") => `(tactic| (k_here; first | (refine ite_pos (by decide +kernel) ?_) | (refine ite_neg (by decide +kernel) ?_)))
local macro_rules | `(tactic| walk_at "pyNext ref") => `(tactic| (k_here; k_dflt (refine' nx_item ?k1 ?k2 ?k3 ?k4 ?k5 ?k6 rfl ?k7 ?k8 ?k9 ?k10 ?k11 ?k12 ?k13 ?k14 ?_; (case k1 => k_asm); (case k2 => k_asm); (case k3 => k_asm); (case k4 => first | k_asm | exact CodeHd.keeps (by assumption) (Below.stays (by assumption))); (case k5 => k_asm); (case k6 => k_asm); (case k7 => assumption); (case k8 => assumption); (case k9 => first | assumption | omega); (case k10 => first | assumption | omega); (case k11 => assumption); (case k12 => assumption); (case k13 => exact Nat.le_of_ble_eq_true rfl); (case k14 => exact Nat.le_of_ble_eq_true rfl); k_whole); intro t' tn' tp' h' tk' F' N'; (try dsimp only); (try k_fold)))
section
variable {w : World} {p : Program} {loose : List Str} {mean : ExcName → Option Value} {mg mb : Str → Option Value} {gd : Option (List Code)}
    {cn : Str} {cs : Scope} {a : Addr} {ccd : Value} {cl : List (Str × Addr)} {outer : List Env} {A₀ : Around} {base h₀ : Heap} {L : Addr} {m : Str → Option Value} {s : Shared}
    {z : Still} {x : Str} {n : Int} {tn : Tok} {tp : Tok} {rest : List (Addr × Obj)}
theorem news_tl2 {h₀ h : Heap} {L : Addr} {e f : Addr × Obj} {news : List (Addr × Obj)} (N : News h₀ L h (e :: f :: news)) : News h₀ L h news := fun _ hp => N _ (.tail _ (.tail _ hp))
theorem gt_one {Q E : Value → Shared → Prop} {ys tail : List Nat} (B : Below A₀ base outer h₀) (F : Fr h₀ L s.heap m) (X : (hd.heap_39 w.params).In h₀) (C : CodeHd base 117 113)
    (N : News h₀ L s.heap (LED w.params z n tn (0 : Nat) tp rest)) (T : Top p loose mean mg mb h₀) (hk : cs.kind = .function)
    (hA : Apart z rest) (hG : Good z x) (hx : x.length ≤ 1000000) (hxs : x.cps.toList = 13 :: 10 :: 34 :: (escL ys ++ 34 :: tail)) (hys : ys.length ≤ 1000000)
    (ret : ∀ t' tn' tp' h' tk', Fr h₀ L h' m → News h₀ L h' (LED w.params z (n + 1 + (ys.count 10 : Nat)) tn' ((3 + (escL ys).length + 1 : Nat) : Int) tp' rest) → Q (.str ⟨ys.toArray⟩ t') { s with heap := h', toks := tk' }) :
    wpAny (model PySem.Challenge.rw_ny0037_01.row.prog w) (ktrTop 302 7 gd cn cs L a ccd cl outer) (call (.ref 66) [.ref z.lex]) Q E s := by
  w_top off; k_with_none
  revert X; k_fill; intro X
  have hc0 : x.cps[0]? = some 13 := by rw [← Array.getElem?_toList, hxs]; rfl
  have hc1 : x.cps[1]? = some 10 := by rw [← Array.getElem?_toList, hxs]; rfl
  have hc2 : x.cps[2]? = some 34 := by rw [← Array.getElem?_toList, hxs]; rfl
  have hdr : x.cps.toList.drop 3 = escL ys ++ 34 :: tail := by rw [hxs]; rfl
  refine wpAny_call ?_
  k_dflt cell_enter
  k_steps
  rename News _ _ _ _ => kN
  rename Fr _ _ _ _ => kF
  exact ret _ _ _ _ _ kF (news_tl2 kN)
end
end Mine
end

-- GT4
noncomputable section
open PySem PySem.W PyProof.Rows
set_option maxRecDepth 100000
set_option maxHeartbeats 8000000
namespace Mine
section
variable {prog : Program} {w : World} {A : Around} {E : Value → Shared → Prop} {s : Shared} {h₀ : Heap} {L : Addr} {m : Str → Option Value} {news : List (Addr × Obj)}
theorem lt_ne {d : Addr} : ∀ {l : List (Addr × Obj)}, AllLt d l → ∀ p ∈ l, p.1 ≠ d := by
  intro l
  induction l with
  | nil => intro _ p hp; cases hp
  | cons a r ih =>
    intro h p hp
    rcases List.mem_cons.mp hp with q | q
    · rw [q]; exact Nat.ne_of_lt h.1
    · exact ih h.2 p q
theorem nx_over {it : Addr} {Q : Option Value → Shared → Prop} (hh : A.handled = none) (F : Fr h₀ L s.heap m) (N : News h₀ L s.heap news) (hm : (it, endO) ∈ news)
    (ret : ∀ h', Fr h₀ L h' m → News h₀ L h' news → Q none { s with heap := h' }) : wpAny (model prog w) A (pyNext (.ref it)) Q E s :=
  ci_next_end hh (N.get hm) fun h' hk => ret h' ⟨F.ns.keeps hk, fun b o e => hk b o (F.keep b o e), F.above⟩ fun p hp => ⟨hk _ _ (N p hp).1, (N p hp).2⟩
end
local macro_rules | `(tactic| walk_at "call builtin:iter") => `(tactic| (k_here; k_dflt (refine' iter_two ?k1 ?k2 ?k3 ?_; (case k1 => k_asm); (case k2 => k_asm); (case k3 => k_mem); k_whole); intro it' h' F' N' l1; (try k_lt l1)))
local macro_rules | `(tactic| walk_at "RestAt") => `(tactic| (refine RestAt.intro ?_))
local macro_rules | `(tactic| walk_at "pyIter ref") => `(tactic| (k_here; k_dflt (refine' pyIter_ci ?k1 ?_; (case k1 => exact News.get (by assumption) (by k_mem)); k_whole)))
local macro_rules | `(tactic| walk_at "ite") => `(tactic| (k_here; first | (refine ite_pos (by decide +kernel) ?_) | (refine ite_neg (by decide +kernel) ?_)))
local macro_rules | `(tactic| walk_at "pyNext ref") => `(tactic| (k_here; k_dflt (refine' nx_item ?k1 ?k2 ?k3 ?k4 ?k5 ?k6 rfl ?k7 ?k8 ?k9 ?k10 ?k11 ?k12 ?k13 ?k14 ?_; (case k1 => k_asm); (case k2 => k_asm); (case k3 => k_asm); (case k4 => first | k_asm | exact CodeHd.keeps (by assumption) (Below.stays (by assumption))); (case k5 => k_asm); (case k6 => k_asm); (case k7 => assumption); (case k8 => assumption); (case k9 => first | assumption | omega); (case k10 => first | assumption | omega); (case k11 => assumption); (case k12 => assumption); (case k13 => exact Nat.le_of_ble_eq_true rfl); (case k14 => exact Nat.le_of_ble_eq_true rfl); k_whole); intro t' tn' tp' h' tk' F' N'; (try dsimp only); (try k_fold)))

local macro_rules | `(tactic| walk_at "pyNext ref") => `(tactic| (k_here; k_dflt (refine' nx_none ?k1 ?k2 ?k3 ?k4 ?k5 ?k6 rfl ?k7 ?k8 ?k9 ?k10 ?k11 ?k12 ?k13 ?k14 ?ko ?_; (case k1 => k_asm); (case k2 => k_asm); (case k3 => k_asm); (case k4 => first | k_asm | exact CodeHd.keeps (by assumption) (Below.stays (by assumption))); (case k5 => k_asm); (case k6 => k_asm); (case k7 => assumption); (case k8 => assumption); (case k9 => first | assumption | omega); (case k10 => first | assumption | omega); (case k11 => assumption); (case k12 => assumption); (case k13 => exact Nat.le_of_ble_eq_true rfl); (case k14 => exact Nat.le_of_ble_eq_true rfl); (case ko => exact lt_ne (by assumption)); k_whole); intro tn' tp' h' tk' F' N'; (try dsimp only); (try k_fold)))
local macro_rules | `(tactic| walk_at "pyNext ref") => `(tactic| (k_here; k_dflt (refine' nx_over rfl ?k1 ?k2 ?k3 ?_; (case k1 => k_asm); (case k2 => k_asm); (case k3 => exact List.Mem.head _); k_whole); intro h' F' N'; (try dsimp only); (try k_fold)))
local macro_rules | `(tactic| walk_at "exec For Name Name cons nil") => `(tactic| (k_here; (first
  | ((with_reducible show wpAny _ _ (exec (PySem.Stmt.For _ _ (PySem.Stmt.If (PySem.Expr.Compare _ [PySem.CmpOp.In] _ _) _ _ _ :: _) _ _) _) _ _ _); k_dflt (refine for_n 3 ?_))
  | (k_dflt (refine for_n 3 ?_)))))
section
variable {w : World} {p : Program} {loose : List Str} {mean : ExcName → Option Value} {mg mb : Str → Option Value} {gd : Option (List Code)}
    {cn : Str} {cs : Scope} {a : Addr} {ccd : Value} {cl : List (Str × Addr)} {outer : List Env} {A₀ : Around} {base h₀ : Heap} {L : Addr} {m : Str → Option Value} {s : Shared}
    {z : Still} {x : Str} {n : Int} {tn : Tok} {tp : Tok} {q : Nat} {rest : List (Addr × Obj)}
theorem gt_two {Q E : Value → Shared → Prop} (B : Below A₀ base outer h₀) (F : Fr h₀ L s.heap m) (X : (hd.heap_39 w.params).In h₀) (C : CodeHd base 117 113)
    (N : News h₀ L s.heap (LED w.params z n tn q tp rest)) (T : Top p loose mean mg mb h₀) (hk : cs.kind = .function)
    (hA : Apart z rest) (hG : Good z x) (hx : x.length ≤ 1000000) (hc : x.cps[q]? = some 110) (hq : q + 1 = x.length)
    (ret : ∀ t' tn' tp' h' tk', Fr h₀ L h' m → News h₀ L h' (LED w.params z n tn' ((q + 1 : Nat) : Int) tp' rest) → Q (.str (Str.ofString "n") t') { s with heap := h', toks := tk' }) :
    wpAny (model PySem.Challenge.rw_ny0037_01.row.prog w) (ktrTop 302 7 gd cn cs L a ccd cl outer) (call (.ref 66) [.ref z.lex]) Q E s := by
  w_top off; k_with_none
  revert X; k_fill; intro X
  refine wpAny_call ?_
  k_dflt cell_enter
  k_steps
  rename News _ _ _ _ => kN
  rename Fr _ _ _ _ => kF
  exact ret _ _ _ _ _ kF (news_tl2 kN)
end
end Mine
end

-- ST1
noncomputable section
open PySem PySem.W PyProof.Rows
set_option maxRecDepth 100000
set_option maxHeartbeats 8000000
namespace Mine
abbrev tabP (c : Addr) : Array Value := #[rawInt 71, rawInt 4, .ref c]
def CodeOk (oc : Obj) : Prop := ∃ vs t, oc.data = .fields vs ∧ vs[1]? = some (.str giveQ t)
abbrev SLED (P : Params) (f c pb2 st ds c2 c1 : Addr) (k1 : Nat) (stt : StrT) (dc pm ct : Value) (oc o1 o2 : Obj) (rest : List (Addr × Obj)) : List (Addr × Obj) :=
  (f, giveO c1 c2 c dc pm ct) :: (c, oc) :: (pb2, listOf #[] k1) :: (st, instObj 76 ds) :: (ds, strD P stt f pb2) :: (c2, o2) :: (c1, o1) :: (113, tabObj (tabP c)) :: rest
def StreamOk (x : Str) (la f pb2 st ds c2 c1 : Addr) (oc o1 o2 : Obj) (rest : List (Addr × Obj)) : Prop :=
  CodeOk oc ∧ (∃ t, o1.data = .cell (some (.str x t))) ∧ o2.data = .cell (some (.ref la)) ∧ (@LT.lt Nat _ c1 c2) ∧ (@LT.lt Nat _ c2 ds) ∧ (@LT.lt Nat _ ds st) ∧ (@LT.lt Nat _ st pb2) ∧ (@LT.lt Nat _ pb2 f) ∧ AllLt c1 rest
section
variable {w : World} {p : Program} {loose : List Str} {mean : ExcName → Option Value} {mg mb : Str → Option Value} {gd : Option (List Code)}
    {cn : Str} {cs : Scope} {a : Addr} {ccd : Value} {cl : List (Str × Addr)} {outer : List Env} {A₀ : Around} {base h₀ : Heap} {L : Addr} {m : Str → Option Value} {s : Shared}
    {x : Str} {t : Tok} {la : Addr} {rest : List (Addr × Obj)}
theorem lt_step {a b : Nat} {r : List (Addr × Obj)} {q : Nat} (h : q < a ∧ AllLt a r) (hb : b = a + 1) : AllLt b r := by
  subst hb
  have h2 := h.2
  clear h
  induction r with
  | nil => exact trivial
  | cons e r ih => exact ⟨Nat.lt_succ_of_lt h2.1, ih h2.2⟩
theorem stream_miss {Q E : Value → Shared → Prop} (B : Below A₀ base outer h₀) (F : Fr h₀ L s.heap m) (X : (hd.heap_39 w.params).In h₀) (C : CodeHd base 117 113)
    (N : News h₀ L s.heap ((113, tabObj #[]) :: rest)) (T : Top p loose mean mg mb h₀) (hk : cs.kind = .function) (hoff : OwnOff rest [113])
    (ret : ∀ (f c pb2 st ds c2 c1 : Addr) (k1 : Nat) (stt : StrT) (dc pm ct : Value) (oc o1 o2 : Obj) h' tk', Fr h₀ L h' m → News h₀ L h' (SLED w.params f c pb2 st ds c2 c1 k1 stt dc pm ct oc o1 o2 rest) → StreamOk x la f pb2 st ds c2 c1 oc o1 o2 rest → Q (.ref st) { s with heap := h', toks := tk' }) :
    wpAny (model PySem.Challenge.rw_ny0037_01.row.prog w) (ktrTop 302 7 gd cn cs L a ccd cl outer) (call (.ref 118) [.str x t, .ref la]) Q E s := by
  w_top off; k_with_none
  revert X; k_fill; intro X
  refine wpAny_call ?_
  k_dflt (refine' code_defC ?k1 ?k2 ?k3 ?k4 ?k5 ?kA ?kF ?kK ?k6 ?k7 ?k8 ?k9 ?kB ?kD ?_ ?c2 ?c3 ?c4; (case kA => exact rfl); (case kF => exact rfl); (case kK => assumption); (case k1 => k_asm); (case k2 => k_asm); (case k3 => k_asm); (case k4 => k_asm); (case k5 => k_asm); (case k6 => k_is); (case k7 => k_is); (case k8 => ktr_room); (case k9 => exact BindsTo.of_eq rfl); (case kB => exact rfl); (case kD => decide +kernel); (case c2 => exact rfl); (case c3 => exact rfl); (case c4 => exact rfl); k_whole; intro g' L' h' tk' cells' FG' F' N' Y' B' X' T' l1; (try k_lt l1); k_cells Y'; (try simp only [List.cons_append, List.nil_append] at N'); (try dsimp only); (try k_lift B'); (try k_fold))
  k_steps
  rename News _ _ _ _ => kN
  rename Fr _ _ _ _ => kF
  simp only [Array.empty_append] at kN
  refine ret _ _ _ _ _ _ _ _ ⟨_, _, _, _, _, _, _⟩ _ _ _ _ _ _ _ _ kF kN ⟨⟨_, _, by assumption, by assumption⟩, ⟨_, by assumption⟩, by assumption, ?_, ?_, ?_, ?_, ?_, lt_step l1 rfl⟩
  all_goals omega
theorem news_ins {h₀ h : Heap} {L : Addr} {e1 e2 e3 e4 e5 e6 e7 c : Addr × Obj} {rest : List (Addr × Obj)} (N : News h₀ L h (e1 :: e2 :: e3 :: e4 :: e5 :: e6 :: e7 :: rest)) (hc : c ∈ rest) : News h₀ L h (e1 :: c :: e2 :: e3 :: e4 :: e5 :: e6 :: e7 :: rest) := by
  intro p hp
  rcases List.mem_cons.mp hp with q | q
  · rw [q]; exact N _ (.head _)
  · rcases List.mem_cons.mp q with q | q
    · rw [q]; exact N _ (.tail _ (.tail _ (.tail _ (.tail _ (.tail _ (.tail _ (.tail _ hc)))))))
    · exact N _ (.tail _ q)
theorem stream_hit {c0 : Addr} {oc0 : Obj} (hoc : CodeOk oc0) (hm : (c0, oc0) ∈ rest) {Q E : Value → Shared → Prop} (B : Below A₀ base outer h₀) (F : Fr h₀ L s.heap m) (X : (hd.heap_39 w.params).In h₀) (C : CodeHd base 117 113)
    (N : News h₀ L s.heap ((113, tabObj (tabP c0)) :: rest)) (T : Top p loose mean mg mb h₀) (hk : cs.kind = .function) (hoff : OwnOff rest [113])
    (ret : ∀ (f c pb2 st ds c2 c1 : Addr) (k1 : Nat) (stt : StrT) (dc pm ct : Value) (oc o1 o2 : Obj) h' tk', Fr h₀ L h' m → News h₀ L h' (SLED w.params f c pb2 st ds c2 c1 k1 stt dc pm ct oc o1 o2 rest) → StreamOk x la f pb2 st ds c2 c1 oc o1 o2 rest → Q (.ref st) { s with heap := h', toks := tk' }) :
    wpAny (model PySem.Challenge.rw_ny0037_01.row.prog w) (ktrTop 302 7 gd cn cs L a ccd cl outer) (call (.ref 118) [.str x t, .ref la]) Q E s := by
  w_top off; k_with_none
  revert X; k_fill; intro X
  refine wpAny_call ?_
  k_dflt (refine' code_defC ?k1 ?k2 ?k3 ?k4 ?k5 ?kA ?kF ?kK ?k6 ?k7 ?k8 ?k9 ?kB ?kD ?_ ?c2 ?c3 ?c4; (case kA => exact rfl); (case kF => exact rfl); (case kK => assumption); (case k1 => k_asm); (case k2 => k_asm); (case k3 => k_asm); (case k4 => k_asm); (case k5 => k_asm); (case k6 => k_is); (case k7 => k_is); (case k8 => ktr_room); (case k9 => exact BindsTo.of_eq rfl); (case kB => exact rfl); (case kD => decide +kernel); (case c2 => exact rfl); (case c3 => exact rfl); (case c4 => exact rfl); k_whole; intro g' L' h' tk' cells' FG' F' N' Y' B' X' T' l1; (try k_lt l1); k_cells Y'; (try simp only [List.cons_append, List.nil_append] at N'); (try dsimp only); (try k_lift B'); (try k_fold))
  k_steps
  rename News _ _ _ _ => kN
  rename Fr _ _ _ _ => kF
  refine ret _ _ _ _ _ _ _ _ ⟨_, _, _, _, _, _, _⟩ _ _ _ _ _ _ _ _ kF (news_ins kN hm) ⟨hoc, ⟨_, by assumption⟩, by assumption, ?_, ?_, ?_, ?_, ?_, lt_step l1 rfl⟩
  all_goals omega
end
end Mine
end

-- RW0
noncomputable section
open PySem PySem.W PyProof.Rows
open Builtin Builtin.Str
set_option maxRecDepth 100000
namespace Mine
theorem sum_parts_le (x y : Str) : ((partsBetween x (occurrences x y 0 x.length (x.length + 1)) y.length).map (·.length)).sum ≤ x.length := by
  have hy : (glued y (partsBetween x (occurrences x y 0 x.length (x.length + 1)) y.length)).length = x.length := by rw [StrLaws.glued_between_self]
  rw [size_glued] at hy
  omega
theorem replace_len (x y z : Str) : (Txt.replace x y z).length ≤ x.length + (x.length + 1) * z.length := by
  unfold Txt.replace
  split
  · omega
  · rw [size_glued, length_partsBetween, Nat.add_sub_cancel]
    have h1 := StrLaws.occ_length_le x y 0 x.length (x.length + 1)
    have h2 := sum_parts_le x y
    have h3 : (occurrences x y 0 x.length (x.length + 1)).length * z.length ≤ (x.length + 1) * z.length := Nat.mul_le_mul_right _ h1
    omega
theorem replaceT {prog : Program} {w : World} {A : Around} {E : Value → Shared → Prop} {s : Shared} {x y z : Str} {t u v : Tok} {Q : Value → Shared → Prop}
    (hs : 0 < s.toks) (hu : u ≠ 0) (hv : v ≠ 0) (huv : u ≠ v) (hyz : (y == z) = false) (hx : x.length ≤ 1048576) (hz : z.length ≤ 2)
    (hq : ∀ t' k, 0 < k → (Txt.replace x y z).length ≤ 3 * x.length + 2 → Q (.str (Txt.replace x y z) t') { s with toks := k }) : wpAny (model prog w) A (call (.builtin "str.replace") [.str x t, .str y u, .str z v]) Q E s := by
  refine wpAny_with_toks (n := 1) hs (SC.replaceW hu hv huv hyz hx (by omega) ?_)
  intro t' k hk
  have h1 := replace_len x y z
  have h2 : (x.length + 1) * z.length ≤ (x.length + 1) * 2 := Nat.mul_le_mul_left _ hz
  exact hq t' k hk (by omega)
theorem gen_toks {α : Type} {M : Model} {A : Around} {t : Sem α} {Q : α → Shared → Prop} {E : Value → Shared → Prop} {hp : Heap} {gs : Array GenState} {dr : Drawn} {X : Nat} {os : OsState} (hX : 0 < X)
    (h : ∀ tk, 0 < tk → wpAny M A t Q E ⟨hp, gs, dr, tk, os⟩) : wpAny M A t Q E ⟨hp, gs, dr, X, os⟩ := h X hX
end Mine
end

-- RW1
noncomputable section
open PySem PySem.W PyProof.Rows
set_option maxRecDepth 100000
set_option maxHeartbeats 8000000
namespace Mine
local macro_rules | `(tactic| walk_at "call builtin:str.replace") => `(tactic| (k_here; k_dflt (refine' replaceT ?k1 ?k2 ?k3 ?k4 ?k5 ?k6 ?k7 ?_; (case k1 => ((try dsimp only); omega)); (case k2 => (refine neN ?_; (try dsimp only); omega)); (case k3 => (refine neN ?_; (try dsimp only); omega)); (case k4 => (refine neN ?_; (try dsimp only); omega)); (case k5 => decide +kernel); (case k6 => omega); (case k7 => decide +kernel); k_whole); intro t' k' hk' hl'; (try dsimp only)))
section
variable {w : World} {p : Program} {loose : List Str} {mean : ExcName → Option Value} {mg mb : Str → Option Value} {gd : Option (List Code)}
    {cn : Str} {cs : Scope} {a : Addr} {ccd : Value} {cl : List (Str × Addr)} {outer : List Env} {A₀ : Around} {base h₀ : Heap} {L : Addr} {m : Str → Option Value} {s : Shared}
    {x : Str} {t : Tok} {news : List (Addr × Obj)}
abbrev rowsT (x : Str) : Str := Txt.replace (Txt.replace x (Str.ofString "\x0d\n") (Str.ofString "\n")) (Str.ofString "\x0d") (Str.ofString "\n")
theorem rows_ct {Q E : Value → Shared → Prop} (B : Below A₀ base outer h₀) (F : Fr h₀ L s.heap m) (X : (hd.heap_39 w.params).In h₀)
    (N : News h₀ L s.heap news) (T : Top p loose mean mg mb h₀) (hk : cs.kind = .function) (hx : x.length ≤ 100000)
    (ret : ∀ d vs k h' tk', Fr h₀ L h' m → News h₀ L h' ((d, listOf vs.toArray k) :: news) → StrsAre vs (Txt.split (rowsT x) (Str.ofString "\n")) → (∀ p ∈ news, p.1 < d) → Q (.ref d) { s with heap := h', toks := tk' }) :
    wpAny (model PySem.Challenge.rw_ny0037_01.row.prog w) (ktrTop 302 7 gd cn cs L a ccd cl outer) (call (.ref 125) [.str x t]) Q E s := by
  w_top off; k_with_none
  revert X; k_fill; intro X
  refine wpAny_call ?_
  k_dflt cell_enter
  refine gen_toks (Nat.succ_pos _) ?_
  intro tk htk
  k_steps
  rename (List.map _ _ = Txt.split _ _) => he
  rename (StrsAre _ _) => hS
  rename News _ _ _ news => N0
  rename News _ _ _ (_ :: news) => kN
  rename Fr _ _ _ _ => kF
  rw [he] at hS
  exact ret _ _ _ _ _ kF kN hS (fun p hp => Heap.lt_size (N0 p hp).1)
end
end Mine
end

-- ST2
noncomputable section
open PySem PySem.W PyProof.Rows
set_option maxRecDepth 100000
set_option maxHeartbeats 8000000
namespace Mine
def TabOk (ps : Array Value) (rest : List (Addr × Obj)) : Prop := ps = #[] ∨ ∃ c oc, ps = tabP c ∧ CodeOk oc ∧ (c, oc) ∈ rest
abbrev SLED2 (P : Params) (f c pb2 st ds c2 c1 la : Addr) (ola : Obj) (k1 : Nat) (stt : StrT) (dc pm ct : Value) (oc o1 o2 : Obj) (rest : List (Addr × Obj)) : List (Addr × Obj) :=
  (f, giveO c1 c2 c dc pm ct) :: (c, oc) :: (pb2, listOf #[] k1) :: (st, instObj 76 ds) :: (ds, strD P stt f pb2) :: (c2, o2) :: (c1, o1) :: (la, ola) :: (113, tabObj (tabP c)) :: rest
theorem news_swap8 {h₀ h : Heap} {L : Addr} {e1 e2 e3 e4 e5 e6 e7 a b : Addr × Obj} {rest : List (Addr × Obj)} (N : News h₀ L h (e1 :: e2 :: e3 :: e4 :: e5 :: e6 :: e7 :: a :: b :: rest)) : News h₀ L h (e1 :: e2 :: e3 :: e4 :: e5 :: e6 :: e7 :: b :: a :: rest) := by
  intro p hp
  refine N p ?_
  simp only [List.mem_cons] at hp ⊢
  rcases hp with h | h | h | h | h | h | h | h | h | h
  · exact .inl h
  · exact .inr (.inl h)
  · exact .inr (.inr (.inl h))
  · exact .inr (.inr (.inr (.inl h)))
  · exact .inr (.inr (.inr (.inr (.inl h))))
  · exact .inr (.inr (.inr (.inr (.inr (.inl h)))))
  · exact .inr (.inr (.inr (.inr (.inr (.inr (.inl h))))))
  · exact .inr (.inr (.inr (.inr (.inr (.inr (.inr (.inr (.inl h))))))))
  · exact .inr (.inr (.inr (.inr (.inr (.inr (.inr (.inl h)))))))
  · exact .inr (.inr (.inr (.inr (.inr (.inr (.inr (.inr (.inr h))))))))
theorem news_swap {h₀ h : Heap} {L : Addr} {a b : Addr × Obj} {rest : List (Addr × Obj)} (N : News h₀ L h (a :: b :: rest)) : News h₀ L h (b :: a :: rest) := by
  intro p hp
  refine N p ?_
  simp only [List.mem_cons] at hp ⊢
  rcases hp with h | h | h
  · exact .inr (.inl h)
  · exact .inl h
  · exact .inr (.inr h)
section
variable {w : World} {p : Program} {loose : List Str} {mean : ExcName → Option Value} {mg mb : Str → Option Value} {gd : Option (List Code)}
    {cn : Str} {cs : Scope} {a : Addr} {ccd : Value} {cl : List (Str × Addr)} {outer : List Env} {A₀ : Around} {base h₀ : Heap} {L : Addr} {m : Str → Option Value} {s : Shared}
    {x : Str} {t : Tok} {la : Addr} {rest : List (Addr × Obj)} {ps : Array Value} {its : Array Value} {kl : Nat}
theorem stream_ct {Q E : Value → Shared → Prop} (B : Below A₀ base outer h₀) (F : Fr h₀ L s.heap m) (X : (hd.heap_39 w.params).In h₀) (C : CodeHd base 117 113)
    (N : News h₀ L s.heap ((la, listOf its kl) :: (113, tabObj ps) :: rest)) (T : Top p loose mean mg mb h₀) (hk : cs.kind = .function) (hoff : OwnOff rest [113]) (hla : @Ne Nat la 113) (hT : TabOk ps rest)
    (ret : ∀ (f c pb2 st ds c2 c1 : Addr) (k1 : Nat) (stt : StrT) (dc pm ct : Value) (oc o1 o2 : Obj) h' tk', Fr h₀ L h' m → News h₀ L h' (SLED2 w.params f c pb2 st ds c2 c1 la (listOf its kl) k1 stt dc pm ct oc o1 o2 rest) →
      StreamOk x la f pb2 st ds c2 c1 oc o1 o2 ((la, listOf its kl) :: rest) → (@Ne Nat c la) → Q (.ref st) { s with heap := h', toks := tk' }) :
    wpAny (model PySem.Challenge.rw_ny0037_01.row.prog w) (ktrTop 302 7 gd cn cs L a ccd cl outer) (call (.ref 118) [.str x t, .ref la]) Q E s := by
  have hoff2 : OwnOff ((la, listOf its kl) :: rest) [113] := by
    intro p hp b hb
    rw [List.mem_singleton.mp hb]
    rcases List.mem_cons.mp hp with e | e
    · rw [e]; exact hla
    · exact hoff p e 113 (.head _)
  have fin : ∀ (f c pb2 st ds c2 c1 : Addr) (k1 : Nat) (stt : StrT) (dc pm ct : Value) (oc o1 o2 : Obj) h' tk', Fr h₀ L h' m → News h₀ L h' (SLED w.params f c pb2 st ds c2 c1 k1 stt dc pm ct oc o1 o2 ((la, listOf its kl) :: rest)) → StreamOk x la f pb2 st ds c2 c1 oc o1 o2 ((la, listOf its kl) :: rest) → Q (.ref st) { s with heap := h', toks := tk' } := by
    intro f c pb2 st ds c2 c1 k1 stt dc pm ct oc o1 o2 h' tk' F' N' S'
    refine ret f c pb2 st ds c2 c1 k1 stt dc pm ct oc o1 o2 h' tk' F' (news_swap8 N') S' ?_
    intro e
    have e1 := (N' (c, oc) (.tail _ (.head _))).1
    have e2 := (news_swap8 N' (la, listOf its kl) (.tail _ (.tail _ (.tail _ (.tail _ (.tail _ (.tail _ (.tail _ (.head _))))))))).1
    dsimp only at e1 e2
    rw [show c = la from e, e2] at e1
    obtain ⟨⟨vs, t, hd, _⟩, _⟩ := S'
    rw [← Option.some.inj e1] at hd
    cases hd
  rcases hT with e | ⟨c0, oc0, e, hoc, hm⟩
  · subst e
    exact stream_miss B F X C (news_swap N) T hk hoff2 fin
  · subst e
    exact stream_hit hoc (.tail _ hm) B F X C (news_swap N) T hk hoff2 fin
end
end Mine
end

-- TN2
noncomputable section
open PySem PySem.W PyProof.Rows
set_option maxRecDepth 100000
set_option maxHeartbeats 8000000
namespace Mine
def lawOf : Stmt → Option (List Stmt × Scope)
  | .FunctionDef _ _ b _ _ _ sc _ _ _ => some (b, sc)
  | _ => none
def lawD : { d : List Stmt × Scope // (PySem.Challenge.pw_ny0037_01.main.body[15]?).bind lawOf = some d } := ⟨_, rfl⟩
def forB : Stmt → Option (List Stmt)
  | .For _ _ b _ _ => some b
  | _ => none
def lawF1 : { d : List Stmt // (lawD.1.1[5]?).bind forB = some d } := ⟨_, rfl⟩
def lawF2 : { d : List Stmt // (lawD.1.1[6]?).bind forB = some d } := ⟨_, rfl⟩
theorem escL_len : ∀ ys : List Nat, ys.length ≤ (escL ys).length := by
  intro ys
  induction ys with
  | nil => exact Nat.le_refl _
  | cons c r ih =>
    unfold escL
    split <;> simp only [List.length_cons] <;> omega
theorem apart_of {x : Str} {pb lex dl f c pb2 st ds c2 c1 la : Addr} {k0 k1 k2 : Nat} {lt : LexT} {stt : StrT} {dc pm ct : Value} {oc o1 o2 : Obj} {ot ola : Obj} {rest : List (Addr × Obj)}
    (h1 : @LT.lt Nat _ f dl ∧ @LT.lt Nat _ c dl ∧ @LT.lt Nat _ pb2 dl ∧ @LT.lt Nat _ st dl ∧ @LT.lt Nat _ ds dl ∧ @LT.lt Nat _ c2 dl ∧ @LT.lt Nat _ c1 dl ∧ @LT.lt Nat _ la dl ∧ @LT.lt Nat _ 113 dl ∧ AllLt dl rest) (h2 : @LT.lt Nat _ 113 la ∧ AllLt la rest)
    (S : StreamOk x la f pb2 st ds c2 c1 oc o1 o2 ((la, ola) :: rest)) (hl : @LT.lt Nat _ dl lex) (hp : @LT.lt Nat _ lex pb) (hn : @Ne Nat c la) :
    Apart ⟨pb, lex, dl, f, c, pb2, st, ds, c2, c1, la, k0, k1, k2, lt, stt, dc, pm, ct, oc, o1, o2⟩ ((113, ot) :: rest) := by
  obtain ⟨_, _, _, q1, q2, q3, q4, q5, q6, _⟩ := S
  obtain ⟨r1, r2, _, _, _, _, _, _, r3⟩ := h1
  refine ⟨?_, q6, q1, q2, q3, q4, q5, r1, hl, hp, hn, Nat.ne_of_lt r2⟩
  intro p hp b hb
  simp only [List.mem_cons, List.not_mem_nil, or_false] at hb
  rcases hb with e | e
  · rw [e]; exact lt_ne (l := (113, ot) :: rest) r3 p hp
  · rw [e]; exact lt_ne (l := (113, ot) :: rest) h2 p hp
local macro_rules | `(tactic| walk_at "call ref") => `(tactic| (k_here; (with_reducible show wpAny _ _ (call (Value.ref 118) [Value.str _ _, Value.ref _]) _ _ _); k_dflt (refine' stream_ct ?k1 ?k2 ?k3 ?k4 ?k5 ?k6 rfl ?k7 ?k8 ?k9 ?_; (case k1 => k_asm); (case k2 => k_asm); (case k3 => k_asm); (case k4 => k_asm); (case k5 => k_asm); (case k6 => k_asm); (case k7 => assumption); (case k8 => omega); (case k9 => assumption); k_whole); intro f' c' pb' st' ds' c2' c1' k1' stt' dc' pm' ct' oc' o1' o2' h' tk' F' N' S' n'; (try dsimp only); (try k_fold)))
local macro_rules | `(tactic| walk_at "call ref") => `(tactic| (k_here; (show wpAny _ _ (call (Value.ref 66) _) _ _ _); (rename StreamOk _ _ _ _ _ _ _ _ _ _ _ _ => sOk); k_dflt (refine' gt_two (z := ⟨_, _, _, _, _, _, _, _, _, _, _, _, _, _, ⟨_, _, _, _, _⟩, _, _, _, _, _, _, _⟩) ?k1 ?k2 ?k3 ?k4 ?k5 ?k6 rfl ?k7 ?k8 ?k9 ?k10 ?k11 ?_; (case k1 => k_asm); (case k2 => k_asm); (case k3 => k_asm); (case k4 => k_asm); (case k5 => k_asm); (case k6 => k_asm); (case k7 => exact apart_of (by assumption) (by assumption) sOk (by omega) (by omega) (by assumption)); (case k8 => exact ⟨sOk.1, sOk.2.1, sOk.2.2.1⟩); (case k9 => omega); (case k10 => assumption); (case k11 => assumption); k_whole); intro t' tn' tp' h' tk' F' N'; (try dsimp only [LED] at N'); (try dsimp only); (try k_fold)))
local macro_rules | `(tactic| walk_at "call ref") => `(tactic| (k_here; (show wpAny _ _ (call (Value.ref 66) _) _ _ _); (rename StreamOk _ _ _ _ _ _ _ _ _ _ _ _ => sOk); k_dflt (refine' gt_one (z := ⟨_, _, _, _, _, _, _, _, _, _, _, _, _, _, ⟨_, _, _, _, _⟩, _, _, _, _, _, _, _⟩) ?k1 ?k2 ?k3 ?k4 ?k5 ?k6 rfl ?k7 ?k8 ?k9 ?k10 ?k11 ?_; (case k1 => k_asm); (case k2 => k_asm); (case k3 => k_asm); (case k4 => k_asm); (case k5 => k_asm); (case k6 => k_asm); (case k7 => exact apart_of (by assumption) (by assumption) sOk (by omega) (by omega) (by assumption)); (case k8 => exact ⟨sOk.1, sOk.2.1, sOk.2.2.1⟩); (case k9 => omega); (case k10 => assumption); (case k11 => assumption); k_whole); intro t' tn' tp' h' tk' F' N'; (try dsimp only [LED] at N'); (try dsimp only); (try k_fold)))
local macro_rules | `(tactic| walk_at "call ref") => `(tactic| (k_here; (with_reducible show wpAny _ _ (call (Value.ref 125) [Value.str _ _]) _ _ _); k_dflt (refine' rows_ct ?k1 ?k2 ?k3 ?k4 ?k5 rfl ?k6 ?_; (case k1 => k_asm); (case k2 => k_asm); (case k3 => k_asm); (case k4 => k_asm); (case k5 => k_asm); (case k6 => omega); k_whole); intro d' vs' k' h' tk' F' N' hS' l1; (try k_lt l1); (try dsimp only); (try k_fold)))
theorem len_rows {prog : Program} {w : World} {A : Around} {E : Value → Shared → Prop} {s : Shared} {h₀ : Heap} {L d : Addr} {vs : List Value} {rs : List Str} {k nn : Nat} {news : List (Addr × Obj)} {Q : Value → Shared → Prop}
    (N : News h₀ L s.heap news) (hm : (d, listOf vs.toArray k) ∈ news) (hS : StrsAre vs rs) (hr : rs.length = nn) (hb : nn ≤ 10000000)
    (h : Q (.int (nn : Int) (s.toks + 1)) { s with toks := s.toks + 1 + 1 }) : wpAny (model prog w) A (call (.builtin "len") [.ref d]) Q E s := by
  have e : vs.toArray.size = nn := by rw [List.size_toArray, hS.length, hr]
  refine len_list (News.isList N hm) (by rw [e]; omega) ?_
  rw [e]
  exact h
local macro_rules | `(tactic| walk_at "call builtin:len") => `(tactic| (k_here; (with_reducible show wpAny _ _ (call (Value.builtin "len") [Value.ref _]) _ _ _); k_dflt (refine' len_rows ?k1 ?k2 ?k3 ?k4 ?k5 ?_; (case k1 => k_asm); (case k2 => k_mem); (case k3 => assumption); (case k4 => assumption); (case k5 => omega); k_whole)))
theorem news_pick {h₀ h : Heap} {L : Addr} {e1 e2 e3 e4 e5 e6 e7 c e9 e10 e11 e12 e13 e14 b : Addr × Obj} {rest : List (Addr × Obj)} (N : News h₀ L h (e1 :: e2 :: e3 :: e4 :: e5 :: e6 :: e7 :: c :: e9 :: e10 :: e11 :: e12 :: e13 :: e14 :: b :: rest)) : News h₀ L h (b :: c :: rest) := by
  intro p hp
  refine N p ?_
  rcases List.mem_cons.mp hp with q | q
  · rw [q]
    exact .tail _ (.tail _ (.tail _ (.tail _ (.tail _ (.tail _ (.tail _ (.tail _ (.tail _ (.tail _ (.tail _ (.tail _ (.tail _ (.tail _ (.head _))))))))))))))
  · rcases List.mem_cons.mp q with q | q
    · rw [q]
      exact .tail _ (.tail _ (.tail _ (.tail _ (.tail _ (.tail _ (.tail _ (.head _)))))))
    · exact .tail _ (.tail _ (.tail _ (.tail _ (.tail _ (.tail _ (.tail _ (.tail _ (.tail _ (.tail _ (.tail _ (.tail _ (.tail _ (.tail _ (.tail _ q))))))))))))))
section
variable {w : World} {p : Program} {loose : List Str} {mean : ExcName → Option Value} {mg mb : Str → Option Value} {gd : Option (List Code)}
    {fa : Addr} {cd : Value} {cl : List (Str × Addr)} {outer : List Env} {A₀ : Around} {base h₀ : Heap} {L : Addr} {m0 : Str → Option Value} {s : Shared}
    {x : Str} {t : Tok} {vm : Value} {rest : List (Addr × Obj)} {ps : Array Value} {ys : List Nat}
theorem turn2 {Q : Flow → Shared → Prop} {E : Value → Shared → Prop} (B : Below A₀ base outer h₀) (F : Fr h₀ L s.heap (fun y => if y = Str.ofString "mark" then some vm else if y = Str.ofString "sent" then some (.str x t) else m0 y)) (X : (hd.heap_39 w.params).In h₀) (C : CodeHd base 117 113)
    (N : News h₀ L s.heap ((113, tabObj ps) :: rest)) (T : Top p loose mean mg mb h₀) (hoff : OwnOff rest [113]) (hT : TabOk ps rest) (h113 : @LT.lt Nat _ 113 L)
    (hx : x.length ≤ 100000) (hxs : x.cps.toList = 13 :: 10 :: 34 :: (escL ys ++ 34 :: [110])) (hr : (Txt.split (rowsT x) (Str.ofString "\n")).length = 2 + ys.count 10)
    (ret : ∀ m' t' c oc h' tk', Fr h₀ L h' m' → m' (Str.ofString "sent") = some (.str ⟨ys.toArray⟩ t') → (∀ y, ([Str.ofString "sent", Str.ofString "told", Str.ofString "word", Str.ofString "lex", Str.ofString "at", Str.ofString "mark"] : List Str).contains y = false → m' y = m0 y) →
      News h₀ L h' ((113, tabObj (tabP c)) :: (c, oc) :: rest) → CodeOk oc → Q .next { s with heap := h', toks := tk' }) :
    wpAny (model PySem.Challenge.rw_ny0037_01.row.prog w) (ktrTop 302 7 gd (Str.ofString "law") lawD.1.2 L fa cd cl outer) (execs lawF2.1 (envX (Str.ofString "law") lawD.1.2 L fa cd cl)) Q E s := by
  w_top off; k_with_none
  revert X; k_fill; intro X
  have hc2 : x.cps[3 + (escL ys).length + 1]? = some 110 := by
    rw [← Array.getElem?_toList, hxs]
    have e : (13 :: 10 :: 34 :: (escL ys ++ 34 :: [110])) = (13 :: 10 :: 34 :: escL ys ++ [34]) ++ [110] := by simp
    have hl : (13 :: 10 :: 34 :: escL ys ++ [34]).length = 3 + (escL ys).length + 1 := by
      simp only [List.length_append, List.length_cons, List.length_nil]; omega
    rw [e, List.getElem?_append_right (by omega), hl, Nat.sub_self]
    rfl
  have hq2 : 3 + (escL ys).length + 1 + 1 = x.length := by
    show _ = x.cps.size
    rw [← Array.length_toList, hxs]
    simp only [List.length_append, List.length_cons, List.length_nil]; omega
  have hys : ys.length ≤ 1000000 := by
    have := escL_len ys
    omega
  have hcnt : ys.count 10 ≤ 1000000 := Nat.le_trans List.count_le_length hys
  dsimp only [lawD, lawF2]
  k_steps
  · rename News _ _ _ _ => kN
    rename Fr _ _ _ _ => kF
    rename StreamOk _ _ _ _ _ _ _ _ _ _ _ _ => sOk
    refine ret _ _ _ _ _ _ kF rfl ?_ (news_pick kN) sOk.1
    intro y hy
    simp only [List.contains_cons, List.contains_nil, Bool.or_false, Bool.or_eq_false_iff, beq_eq_false_iff_ne, ne_eq] at hy
    obtain ⟨h1, h2, h3, h4, h5, h6⟩ := hy
    simp only [if_neg h1, if_neg h2, if_neg h3, if_neg h4, if_neg h5, if_neg h6]
  · exfalso
    rename (_ && _) = false => hf
    have e1 : (([((3 + (escL ys).length + 1 + 1 : Nat) : Int)].getD (Int.toNat 0) 0 == (x.length : Int)) && ((1 : Int) + 1 + ((ys.count 10 : Nat) : Int) == ((2 + ys.count 10 : Nat) : Int))) = true := by
      rw [Bool.and_eq_true, beq_iff_eq, beq_iff_eq]
      refine ⟨?_, by omega⟩
      show ((3 + (escL ys).length + 1 + 1 : Nat) : Int) = _
      rw [hq2]
    rw [e1] at hf
    cases hf
end
end Mine
end

-- LP2
noncomputable section
open PySem PySem.W PyProof.Rows
set_option maxRecDepth 100000
set_option maxHeartbeats 8000000
namespace Mine
abbrev names2 : List Str := [Str.ofString "sent", Str.ofString "told", Str.ofString "word", Str.ofString "lex", Str.ofString "at", Str.ofString "mark"]
def IterO (o : Obj) (D : Addr) (i : Nat) : Prop := o.cls = .type "list_iterator" ∧ o.data = .fields #[.ref D, .int i 0]
def J2 (h₀ : Heap) (L : Addr) (s : Shared) (D : Addr) (S : Nat → List Nat) (m0 : Str → Option Value) (rest0 : List (Addr × Obj)) (n : Nat) (I : Addr) (k : Nat) (s' : Shared) : Prop :=
  ∃ (i : Nat) (m' : Str → Option Value) (t' : Tok) (ps : Array Value) (extra : List (Addr × Obj)) (oI : Obj) (h' : Heap) (tk' : Nat),
    k = n + 1 - i ∧ i ≤ n ∧ s' = { s with heap := h', toks := tk' } ∧ Fr h₀ L h' m' ∧ m' (Str.ofString "sent") = some (.str ⟨(S i).toArray⟩ t') ∧ (∀ y, names2.contains y = false → m' y = m0 y) ∧
    News h₀ L h' ((113, tabObj ps) :: (I, oI) :: (extra ++ rest0)) ∧ IterO oI D i ∧ TabOk ps (extra ++ rest0) ∧ (∀ p ∈ extra ++ rest0, p.1 ≠ I ∧ p.1 ≠ 113) ∧ I ≠ 113
section
variable {w : World} {p : Program} {loose : List Str} {mean : ExcName → Option Value} {mg mb : Str → Option Value} {gd : Option (List Code)}
    {fa : Addr} {cd : Value} {cl : List (Str × Addr)} {outer : List Env} {A₀ : Around} {base h₀ : Heap} {L : Addr} {m0 : Str → Option Value} {s : Shared}
    {t : Tok} {rest0 : List (Addr × Obj)} {D cm : Addr} {vs : List Value} {ms : List Int} {kk : Nat} {ocm : Obj} {S : Nat → List Nat} {ps : Array Value}
theorem other_c {h : Heap} {c I : Addr} {oc oI : Obj} {D i : Nat} (h1 : h.get? c = some oc) (h2 : h.get? I = some oI) (hc : CodeOk oc) (hI : IterO oI D i) : c ≠ I := by
  intro e
  rw [e, h2] at h1
  obtain ⟨vs, t, hd, hv⟩ := hc
  rw [← Option.some.inj h1, hI.2] at hd
  cases hd
  cases hv
theorem other_t {h : Heap} {c : Addr} {oc : Obj} {q : Addr} (h1 : h.get? c = some oc) (h2 : h.get? 113 = some (tabObj (tabP q))) (hc : CodeOk oc) : c ≠ 113 := by
  intro e
  rw [e, h2] at h1
  obtain ⟨vs, t, hd, hv⟩ := hc
  rw [← Option.some.inj h1] at hd
  cases hd
  cases hv
theorem loop2 {Q : Flow → Shared → Prop} {E : Value → Shared → Prop} {px py pos : Pos} (B : Below A₀ base outer h₀) (F : Fr h₀ L s.heap m0) (X : (hd.heap_39 w.params).In h₀) (C : CodeHd base 117 113)
    (N : News h₀ L s.heap ((113, tabObj ps) :: rest0)) (T : Top p loose mean mg mb h₀) (hoff : OwnOff rest0 [113]) (hT : TabOk ps rest0) (h113 : @LT.lt Nat _ 113 L)
    (hcl : cl.lookup (Str.ofString "marks") = some cm) (hcm : (cm, ocm) ∈ rest0) (hcd : ocm.data = .cell (some (.ref D))) (hD : (D, listOf vs.toArray kk) ∈ rest0) (hI : IntsAre vs ms)
    (hm : m0 (Str.ofString "sent") = some (.str ⟨(S 0).toArray⟩ t))
    (hS : ∀ i, i < ms.length → S i = 13 :: 10 :: 34 :: (escL (S (i + 1)) ++ 34 :: [110]) ∧ (S i).length ≤ 100000 ∧ (Txt.split (rowsT ⟨(S i).toArray⟩) (Str.ofString "\n")).length = 2 + (S (i + 1)).count 10)
    (hE : PassesOwn (model PySem.Challenge.rw_ny0037_01.row.prog w) (ktrTop 302 7 gd (Str.ofString "law") lawD.1.2 L fa cd cl outer) (envX (Str.ofString "law") lawD.1.2 L fa cd cl) E)
    (ret : ∀ m' t' ps' extra h' tk', Fr h₀ L h' m' → m' (Str.ofString "sent") = some (.str ⟨(S ms.length).toArray⟩ t') → (∀ y, names2.contains y = false → m' y = m0 y) → News h₀ L h' ((113, tabObj ps') :: (extra ++ rest0)) → Q .next { s with heap := h', toks := tk' }) :
    wpAny (model PySem.Challenge.rw_ny0037_01.row.prog w) (ktrTop 302 7 gd (Str.ofString "law") lawD.1.2 L fa cd cl outer) (exec (.For (.Name (Str.ofString "mark") px) (.Name (Str.ofString "marks") py) lawF2.1 [] pos) (envX (Str.ofString "law") lawD.1.2 L fa cd cl)) Q E s := by
  have hlist : ∀ {h : Heap}, News h₀ L h rest0 → h.IsList D vs.toArray := fun N' => News.isList N' hD
  have N0 : News h₀ L s.heap rest0 := fun q hq => N q (.tail _ hq)
  have hlen : vs.length = ms.length := hI.length
  refine for_inv (J2 h₀ L s D S m0 rest0 ms.length) ?_ ?_ (by intro _; rfl) hE
  · refine nameX_C N hcl (.tail _ hcm) hcd ?_
    refine wpAny_pyIter_list (hlist N0) ?_
    refine ⟨_, ms.length + 1, rfl, 0, m0, t, ps, [], { cls := .type "list_iterator", data := .fields #[.ref D, .int 0 0] }, _, s.toks, by omega, Nat.zero_le _, rfl, F.push _, hm, fun _ _ => rfl, ?_, ⟨rfl, rfl⟩, hT, ?_, ?_⟩
    · intro q hq
      rcases List.mem_cons.mp hq with e | e
      · rw [e]; exact (News.push F N { cls := .type "list_iterator", data := .fields #[.ref D, .int 0 0] }) _ (.tail _ (.head _))
      · rcases List.mem_cons.mp e with e | e
        · rw [e]; exact (News.push F N { cls := .type "list_iterator", data := .fields #[.ref D, .int 0 0] }) _ (.head _)
        · exact (News.push F N { cls := .type "list_iterator", data := .fields #[.ref D, .int 0 0] }) _ (.tail _ (.tail _ e))
    · intro q hq
      exact ⟨Nat.ne_of_lt (Heap.lt_size (N0 q hq).1), hoff q hq 113 (.head _)⟩
    · exact Nat.ne_of_gt (Heap.lt_size (N _ (.head _)).1)
  · rintro I k s' ⟨i, m', t', ps', extra, oI, h', tk', hk, hi, rfl, F', hm', hy', N', hit, hT', hoff', hI13⟩
    have N1 : News h₀ L h' rest0 := fun q hq => N' q (.tail _ (.tail _ (List.mem_append_right _ hq)))
    have hIter : h'.IsListIter I D i := ⟨oI, (N' _ (.tail _ (.head _))).1, hit.1, hit.2⟩
    have hIL := (N' _ (.tail _ (.head _))).2.1
    have hI0 := (N' _ (.tail _ (.head _))).2.2
    by_cases hlt : i < ms.length
    · obtain ⟨hS1, hS2, hS3⟩ := hS i hlt
      obtain ⟨tv, hv⟩ := hI.get i ms[i] (by simp [hlt])
      refine wpAny_pyNext_list_item hIter (hlist N1) (x := .int ms[i] tv) (by simpa using hv) ?_
      intro h1 hit1 hs1
      have F1 := F'.change hs1 hIL hI0
      obtain ⟨oI1, ho1, hc1, hd1⟩ := hit1
      have N2 : News h₀ L h1 ((113, tabObj ps') :: (I, oI1) :: (extra ++ rest0)) := by
        intro q hq
        rcases List.mem_cons.mp hq with e | e
        · rw [e]
          exact ⟨(hs1.2 113 (fun e' => hI13 e'.symm)).trans (N' _ (.head _)).1, (N' _ (.head _)).2⟩
        · rcases List.mem_cons.mp e with e | e
          · rw [e]; exact ⟨ho1, hIL, hI0⟩
          · exact ⟨(hs1.2 _ (hoff' q e).1).trans (N' _ (.tail _ (.tail _ e))).1, (N' _ (.tail _ (.tail _ e))).2⟩
      show wpAny _ _ (storeName _ _ _) _ _ _
      refine storeX_L F1 N2 ?_ rfl rfl
      intro h2 F2 N3
      refine turn2 (m0 := m') (x := ⟨(S i).toArray⟩) (t := t') (vm := .int ms[i] tv) (rest := (I, oI1) :: (extra ++ rest0)) (ys := S (i + 1)) B (fr_eq F2 ?_) X C N3 T ?_ ?_ h113 (by simpa [Str.length] using hS2) (by simpa using hS1) hS3 ?_
      · intro y
        by_cases h1 : y = Str.ofString "mark"
        · simp only [if_pos h1]
        · simp only [if_neg h1]
          by_cases h2 : y = Str.ofString "sent"
          · simp only [if_pos h2]; rw [h2]; exact hm'
          · simp only [if_neg h2]
      · intro q hq b hb
        rw [List.mem_singleton.mp hb]
        rcases List.mem_cons.mp hq with e | e
        · rw [e]; exact hI13
        · exact (hoff' q e).2
      · rcases hT' with e | ⟨c, oc, e1, e2, e3⟩
        · exact .inl e
        · exact .inr ⟨c, oc, e1, e2, .tail _ e3⟩
      · intro m2 t2 c oc h3 tk3 F3 hs3 hy3 N4 hoc
        have e1 := (N4 (c, oc) (.tail _ (.head _))).1
        have e2 := (N4 (I, oI1) (.tail _ (.tail _ (.head _)))).1
        have e3 := (N4 _ (.head _)).1
        refine ⟨ms.length + 1 - (i + 1), by omega, i + 1, m2, t2, tabP c, (c, oc) :: extra, oI1, h3, tk3, rfl, hlt, rfl, F3, hs3, fun y hy => (hy3 y hy).trans (hy' y hy), ?_, ⟨hc1, hd1⟩, .inr ⟨c, oc, rfl, hoc, .head _⟩, ?_, hI13⟩
        · intro q hq
          refine N4 q ?_
          simp only [List.mem_cons, List.cons_append] at hq ⊢
          rcases hq with e | e | e | e
          · exact .inl e
          · exact .inr (.inr (.inl e))
          · exact .inr (.inl e)
          · exact .inr (.inr (.inr e))
        · intro q hq
          rcases List.mem_cons.mp hq with e | e
          · rw [e]; exact ⟨other_c e1 e2 hoc ⟨hc1, hd1⟩, other_t e1 e3 hoc⟩
          · exact hoff' q e
    · have hin : i = ms.length := by omega
      subst hin
      refine wpAny_pyNext_list_end rfl hIter (hlist N1) (by simp [hlen]) ?_
      intro h1 he1
      refine ret m' t' ps' extra h1 tk' ⟨F'.ns.extBut he1 (Ne.symm hIL), fun b ob e => he1 b ob (fun q => ?_) (F'.keep b ob e), F'.above⟩ hm' hy' ?_
      · rw [q, hI0] at e; cases e
      · intro q hq
        rcases List.mem_cons.mp hq with e | e
        · rw [e]; exact ⟨he1 _ _ (fun e' => hI13 e'.symm) (N' _ (.head _)).1, (N' _ (.head _)).2⟩
        · exact ⟨he1 _ _ (hoff' q e).1 (N' _ (.tail _ (.tail _ e))).1, (N' _ (.tail _ (.tail _ e))).2⟩
end
end Mine
end

-- P2
noncomputable section
open PySem PySem.W PyProof.Rows
namespace Mine
/-- CRLF line ends only -/
def Norm (l : List Nat) : Prop := eolL l = l
theorem eolL_cons {c : Nat} (h1 : c ≠ 13) (h2 : c ≠ 10) (r : List Nat) : eolL (c :: r) = c :: eolL r := by
  rw [eolL]
  · intro _ h; exact absurd h h1
  · intro h; exact absurd h h1
  · intro h; exact absurd h h2
theorem eolL_crlf (r : List Nat) : eolL (13 :: 10 :: r) = 13 :: 10 :: eolL r := by rw [eolL]
theorem eolL_lf (r : List Nat) : eolL (10 :: r) = 13 :: 10 :: eolL r := by rw [eolL]
theorem eolL_cr {r : List Nat} (h : r.head? ≠ some 10) : eolL (13 :: r) = 13 :: 10 :: eolL r := by
  cases r with
  | nil => rfl
  | cons c r =>
    rw [eolL]
    intro r' h'
    injection h' with h1 h2
    exact h (by rw [h1]; rfl)
/-- the walk along the line ends -/
theorem eol_ind {P : List Nat → Prop} (nil : P []) (crlf : ∀ r, P r → P (13 :: 10 :: r)) (cr : ∀ r, r.head? ≠ some 10 → P r → P (13 :: r)) (lf : ∀ r, P r → P (10 :: r)) (oth : ∀ c r, c ≠ 13 → c ≠ 10 → P r → P (c :: r)) : ∀ l, P l := by
  have all : ∀ n, ∀ l : List Nat, l.length ≤ n → P l := by
    intro n
    induction n with
    | zero => intro l hl; cases l with | nil => exact nil | cons _ _ => simp at hl
    | succ n ih =>
      intro l hl
      cases l with
      | nil => exact nil
      | cons c r =>
        by_cases h1 : c = 13
        · subst h1
          cases r with
          | nil => exact cr [] (by simp) nil
          | cons d r =>
            by_cases h2 : d = 10
            · subst h2; exact crlf r (ih r (by simp only [List.length_cons] at hl; omega))
            · exact cr (d :: r) (by simpa using h2) (ih _ (by simp only [List.length_cons] at hl ⊢; omega))
        · by_cases h2 : c = 10
          · subst h2; exact lf r (ih r (by simp only [List.length_cons] at hl; omega))
          · exact oth c r h1 h2 (ih r (by simp only [List.length_cons] at hl; omega))
  exact fun l => all _ l (Nat.le_refl _)
theorem eolL_idem (l : List Nat) : Norm (eolL l) := by
  unfold Norm
  refine eol_ind (P := fun l => eolL (eolL l) = eolL l) rfl ?_ ?_ ?_ ?_ l
  · intro r h; rw [eolL_crlf, eolL_crlf, h]
  · intro r hr h; rw [eolL_cr hr, eolL_crlf, h]
  · intro r h; rw [eolL_lf, eolL_crlf, h]
  · intro c r h1 h2 h; rw [eolL_cons h1 h2, eolL_cons h1 h2, h]
/-- a normal text, seen from its head -/
theorem norm_ind {P : List Nat → Prop} (nil : P []) (crlf : ∀ r, Norm r → P r → P (13 :: 10 :: r)) (oth : ∀ c r, c ≠ 13 → c ≠ 10 → Norm r → P r → P (c :: r)) : ∀ l, Norm l → P l := by
  refine eol_ind (P := fun l => Norm l → P l) (fun _ => nil) ?_ ?_ ?_ ?_
  · intro r ih h
    unfold Norm at h
    rw [eolL_crlf] at h
    injection h with _ h; injection h with _ h
    exact crlf r h (ih h)
  · intro r hr ih h
    unfold Norm at h
    rw [eolL_cr hr] at h
    injection h with _ h
    rw [← h] at hr
    exact absurd rfl hr
  · intro r ih h
    unfold Norm at h
    rw [eolL_lf] at h
    injection h with h _
    exact absurd h (by decide)
  · intro c r h1 h2 ih h
    unfold Norm at h
    rw [eolL_cons h1 h2] at h
    injection h with _ h
    exact oth c r h1 h2 h (ih h)
theorem norm_crlf {r : List Nat} (h : Norm r) : Norm (13 :: 10 :: r) := by unfold Norm; rw [eolL_crlf, h]
theorem norm_cons {c : Nat} {r : List Nat} (h1 : c ≠ 13) (h2 : c ≠ 10) (h : Norm r) : Norm (c :: r) := by unfold Norm; rw [eolL_cons h1 h2, h]
theorem dotL_dot (r : List Nat) : dotL true (46 :: r) = 46 :: 46 :: dotL false r := by rw [dotL]
theorem dotL_false (c : Nat) (r : List Nat) : dotL false (c :: r) = c :: dotL (c == 10) r := by rw [dotL]; simp
theorem dotL_other {c : Nat} (h : c ≠ 46) (b : Bool) (r : List Nat) : dotL b (c :: r) = c :: dotL (c == 10) r := by
  rw [dotL]
  intro _ h'
  exact absurd h' h
theorem dotL_norm : ∀ (l : List Nat), Norm l → ∀ b, Norm (dotL b l) := by
  refine norm_ind (P := fun l => ∀ b, Norm (dotL b l)) (fun b => by cases b <;> rfl) ?_ ?_
  · intro r _ ih b
    rw [dotL_other (by decide), dotL_other (by decide)]
    exact norm_crlf (ih _)
  · intro c r h1 h2 _ ih b
    by_cases h : c = 46
    · subst h
      cases b with
      | true => rw [dotL_dot]; exact norm_cons (by decide) (by decide) (norm_cons (by decide) (by decide) (ih _))
      | false => rw [dotL_false]; exact norm_cons (by decide) (by decide) (ih _)
    · rw [dotL_other h]; exact norm_cons h1 h2 (ih _)
theorem escL_cons_esc {c : Nat} (h : c = 34 ∨ c = 92) (r : List Nat) : escL (c :: r) = 92 :: c :: escL r := by simp only [escL, if_pos h]
theorem escL_cons_plain {c : Nat} (h : ¬ (c = 34 ∨ c = 92)) (r : List Nat) : escL (c :: r) = c :: escL r := by simp only [escL, if_neg h]
abbrev shutL (y : List Nat) : List Nat := escL y ++ [34, 110]
theorem shut_norm : ∀ (l : List Nat), Norm l → Norm (shutL l) := by
  refine norm_ind (P := fun l => Norm (shutL l)) rfl ?_ ?_
  · intro r _ ih
    show Norm (escL (13 :: 10 :: r) ++ [34, 110])
    rw [escL_cons_plain (by decide), escL_cons_plain (by decide)]
    exact norm_crlf ih
  · intro c r h1 h2 _ ih
    by_cases h : c = 34 ∨ c = 92
    · show Norm (escL (c :: r) ++ [34, 110])
      rw [escL_cons_esc h]
      exact norm_cons (by decide) (by decide) (norm_cons h1 h2 ih)
    · show Norm (escL (c :: r) ++ [34, 110])
      rw [escL_cons_plain h]
      exact norm_cons h1 h2 ih
theorem dot_shut : ∀ (l : List Nat) (b : Bool), dotL b (shutL l) = shutL (dotL b l) := by
  intro l
  induction l with
  | nil => intro b; cases b <;> rfl
  | cons c r ih =>
    intro b
    by_cases h : c = 34 ∨ c = 92
    · have hc : c ≠ 46 := by rcases h with h | h <;> rw [h] <;> decide
      have hb : (c == 10) = false := by rcases h with h | h <;> rw [h] <;> decide
      show dotL b (escL (c :: r) ++ [34, 110]) = _
      rw [escL_cons_esc h, dotL_other hc]
      show dotL b (92 :: c :: shutL r) = escL (c :: dotL (c == 10) r) ++ [34, 110]
      rw [dotL_other (by decide), dotL_other hc, escL_cons_esc h, hb, ih]
      rfl
    · by_cases h46 : c = 46
      · subst h46
        show dotL b (escL (46 :: r) ++ [34, 110]) = _
        rw [escL_cons_plain (by decide)]
        cases b with
        | true =>
          rw [dotL_dot]
          show dotL true (46 :: shutL r) = escL (46 :: 46 :: dotL false r) ++ [34, 110]
          rw [dotL_dot, escL_cons_plain (by decide), escL_cons_plain (by decide), ih]
          rfl
        | false =>
          rw [dotL_false]
          show dotL false (46 :: shutL r) = escL (46 :: dotL _ r) ++ [34, 110]
          rw [dotL_false, escL_cons_plain (by decide), ih]
          rfl
      · show dotL b (escL (c :: r) ++ [34, 110]) = _
        rw [escL_cons_plain h, dotL_other h46]
        show dotL b (c :: shutL r) = escL (c :: dotL _ r) ++ [34, 110]
        rw [dotL_other h46, escL_cons_plain h, ih]
        rfl
/-- an envelope over a normal text -/
abbrev envL (y : List Nat) : List Nat := 13 :: 10 :: 34 :: shutL y
theorem eol_env {y : List Nat} (h : Norm y) : eolL (13 :: 34 :: shutL y) = envL y := by
  rw [eolL_cr (by simp), eolL_cons (by decide) (by decide), shut_norm y h]
theorem dot_env (b : Bool) (y : List Nat) : dotL b (envL y) = envL (dotL false y) := by
  show dotL b (13 :: 10 :: 34 :: shutL y) = _
  rw [dotL_other (by decide), dotL_other (by decide), dotL_other (by decide), dot_shut]
  rfl
theorem env_norm {y : List Nat} (h : Norm y) : Norm (envL y) := norm_crlf (norm_cons (by decide) (by decide) (shut_norm y h))
/-- k dots more at the rows but the first -/
noncomputable def dots : Nat → List Nat → List Nat
  | 0, l => l
  | k + 1, l => dotL false (dots k l)
theorem dots_env (k : Nat) (y : List Nat) : dots k (envL y) = envL (dots k y) := by
  induction k with
  | zero => rfl
  | succ k ih => show dotL false (dots k (envL y)) = _; rw [ih, dot_env]; rfl
theorem dots_norm (k : Nat) {y : List Nat} (h : Norm y) : Norm (dots k y) := by
  induction k with
  | zero => exact h
  | succ k ih => exact dotL_norm _ ih false
theorem dots_add (a b : Nat) (l : List Nat) : dots a (dots b l) = dots (a + b) l := by
  induction a with
  | zero => rw [Nat.zero_add]; rfl
  | succ a ih => rw [Nat.succ_add]; show dotL false (dots a (dots b l)) = dotL false (dots (a + b) l); rw [ih]
/-- the first loop, over lists of codes -/
noncomputable def wrapL (y : List Nat) : List Int → List Nat
  | [] => y
  | mk :: r => wrapL (if mk = 0 then envL (dotL false y) else envL y) r
def zeros (ms : List Int) : Nat := ms.count 0
theorem wrapL_snoc (y : List Nat) (r : List Int) (mk : Int) : wrapL y (r ++ [mk]) = (if mk = 0 then envL (dotL false (wrapL y r)) else envL (wrapL y r)) := by
  induction r generalizing y with
  | nil => rfl
  | cons a r ih => exact ih _
theorem wrapL_norm {y : List Nat} (h : Norm y) (ms : List Int) : Norm (wrapL y ms) := by
  induction ms generalizing y with
  | nil => exact h
  | cons a r ih =>
    unfold wrapL
    split
    · exact ih (env_norm (dotL_norm _ h false))
    · exact ih (env_norm h)
/-- the second loop: what is left behind i words -/
def openL (y : List Nat) (ms : List Int) (i : Nat) : List Nat := dots (zeros (ms.drop (ms.length - i))) (wrapL y (ms.take (ms.length - i)))
theorem openL_zero (y : List Nat) (ms : List Int) : openL y ms 0 = wrapL y ms := by
  unfold openL
  rw [Nat.sub_zero, List.take_length, List.drop_length]
  rfl
theorem openL_last (y : List Nat) (ms : List Int) : openL y ms ms.length = dots (zeros ms) y := by
  unfold openL
  rw [Nat.sub_self]
  rfl
theorem openL_step (y : List Nat) (ms : List Int) {i : Nat} (h : i < ms.length) : openL y ms i = envL (openL y ms (i + 1)) := by
  unfold openL
  have hj : ms.length - i = (ms.length - (i + 1)) + 1 := by omega
  have hlt : ms.length - (i + 1) < ms.length := by omega
  generalize ms.length - (i + 1) = j at hj hlt
  rw [hj, List.take_add_one, List.getElem?_eq_getElem hlt]
  show dots _ (wrapL y (ms.take j ++ [ms[j]])) = _
  rw [wrapL_snoc, List.drop_eq_getElem_cons hlt]
  unfold zeros
  by_cases hz : ms[j] = 0
  · rw [if_pos hz, dots_env, hz, List.count_cons_self]
    congr 1
    show dots _ (dots 1 _) = _
    rw [dots_add]
  · rw [if_neg hz, dots_env, List.count_cons_of_ne hz]
theorem openL_norm {y : List Nat} (h : Norm y) (ms : List Int) (i : Nat) : Norm (openL y ms i) := dots_norm _ (wrapL_norm h _)
end Mine
end

-- P3
noncomputable section
open PySem PySem.W PyProof.Rows
open Builtin Builtin.Str StrLaws
namespace Mine
/-- g turns every y into z, from the left -/
structure Turns (y z : List Nat) (g : List Nat → List Nat) : Prop where
  nil : g [] = []
  hit : ∀ r, g (y ++ r) = z ++ g r
  miss : ∀ c r, ¬ y <+: c :: r → g (c :: r) = c :: g r
theorem at_iff (x y : Str) (k : Nat) (hw : 1 ≤ y.length) : At x y x.length k ↔ y.cps.toList <+: x.cps.toList.drop k := by
  have hl : y.cps.toList.length = y.length := Array.length_toList
  have hxl : x.cps.toList.length = x.length := Array.length_toList
  unfold At
  rw [subAt_eq, beq_iff_eq]
  constructor
  · rintro ⟨_, h⟩
    rw [← h]
    exact List.take_prefix _ _
  · intro h
    have h2 := h.length_le
    rw [List.length_drop, hl, hxl] at h2
    refine ⟨by omega, ?_⟩
    have := List.prefix_iff_eq_take.mp h
    rw [hl] at this
    exact this.symm
section
variable {x y : Str} {z : List Nat} {g : List Nat → List Nat}
theorem turns_free (hw : 1 ≤ y.length) (G : Turns y.cps.toList z g) : ∀ (n a b : Nat), b - a = n → a ≤ b → b ≤ x.length → (∀ k, a ≤ k → k < b → ¬ At x y x.length k) → g (x.cps.toList.drop a) = (x.cps.toList.drop a).take (b - a) ++ g (x.cps.toList.drop b) := by
  intro n
  induction n with
  | zero =>
    intro a b hn hab _ _
    have e : a = b := by omega
    subst e
    rw [Nat.sub_self, List.take_zero, List.nil_append]
  | succ n ih =>
    intro a b hn hab hb hno
    have hxl : x.cps.toList.length = x.length := Array.length_toList
    have ha : a < x.cps.toList.length := by omega
    have h1 := ih (a + 1) b (by omega) (by omega) hb (fun k h1 h2 => hno k (by omega) h2)
    have h0 := hno a (Nat.le_refl _) (by omega)
    rw [at_iff x y a hw, List.drop_eq_getElem_cons ha] at h0
    rw [List.drop_eq_getElem_cons ha, G.miss _ _ h0, h1]
    have e : b - a = (b - (a + 1)) + 1 := by omega
    rw [e, List.take_succ_cons, List.cons_append]
theorem turns_parts (hw : 1 ≤ y.length) (G : Turns y.cps.toList z g) (zs : Str) (hz : zs.cps.toList = z) : ∀ (cuts : List Nat) (a f : Nat), a ≤ x.length → ChainG x y x.length a cuts f → (∀ k, f ≤ k → ¬ At x y x.length k) →
    (Str.join zs (partsFrom x y.length a cuts)).cps.toList = g (x.cps.toList.drop a) := by
  intro cuts
  induction cuts with
  | nil =>
    intro a f ha h hn
    have e : f = a := h
    subst e
    have hxl : x.cps.toList.length = x.length := Array.length_toList
    show (strSub x f x.length).cps.toList = _
    rw [strSub_toList, turns_free hw G (x.length - f) f x.length rfl ha (Nat.le_refl _) (fun k h1 _ => hn k h1), List.drop_of_length_le (Nat.le_of_eq hxl), G.nil, List.append_nil]
  | cons c r ih =>
    intro a f ha h hn
    obtain ⟨h1, h2, h3, h4⟩ := h
    have hc : c + y.length ≤ x.length := h2.1
    have h5 := ih (c + y.length) f hc h4 hn
    obtain ⟨q, rr, e⟩ := partsFrom_ne x y.length (c + y.length) r
    show (Str.join zs (strSub x a c :: partsFrom x y.length (c + y.length) r)).cps.toList = _
    rw [e] at h5 ⊢
    show (strSub x a c ++ zs ++ Str.join zs (q :: rr)).cps.toList = _
    simp only [Str.cps_append, Array.toList_append]
    rw [h5, hz, strSub_toList, turns_free hw G (c - a) a c rfl h1 (by omega) h3]
    have hp := (at_iff x y c hw).mp h2
    obtain ⟨tl, htl⟩ := hp
    have hl : y.cps.toList.length = y.length := Array.length_toList
    have e2 : x.cps.toList.drop (c + y.length) = tl := by
      rw [← List.drop_drop, ← htl, ← hl, List.drop_left]
    rw [e2, ← htl, G.hit, List.append_assoc]
theorem replace_turns (hw : 1 ≤ y.length) (zs : Str) (G : Turns y.cps.toList zs.cps.toList g) : (Txt.replace x y zs).cps.toList = g x.cps.toList := by
  obtain ⟨f, hG, hn⟩ := occ_tight x y hw
  have key := turns_parts hw G zs rfl _ 0 f (Nat.zero_le _) hG hn
  rw [List.drop_zero, ← partsBetween_eq] at key
  unfold Txt.replace
  split
  · rename_i hc
    have h0 : (y.length == 0) = false := by rw [beq_eq_false_iff_ne]; omega
    rw [h0, Bool.false_and, Bool.or_false, List.isEmpty_iff] at hc
    rw [hc, partsBetween_eq] at key
    rw [← key]
    show _ = (strSub x 0 x.length).cps.toList
    rw [sub_whole]
  · rw [glued_eq_join, key]
end
/-- the four turnings -/
noncomputable def turn1L (c : Nat) (z : List Nat) : List Nat → List Nat
  | [] => []
  | d :: r => if d = c then z ++ turn1L c z r else d :: turn1L c z r
theorem turns1 (c : Nat) (z : List Nat) : Turns [c] z (turn1L c z) where
  nil := rfl
  hit r := by show turn1L c z (c :: r) = _; simp only [turn1L, if_true]
  miss d r h := by
    have hd : d ≠ c := fun e => h (by rw [e]; exact ⟨r, rfl⟩)
    simp only [turn1L, if_neg hd]
noncomputable def crlfL : List Nat → List Nat
  | [] => []
  | 13 :: 10 :: r => 10 :: crlfL r
  | c :: r => c :: crlfL r
theorem turns2 : Turns [13, 10] [10] crlfL where
  nil := rfl
  hit r := by show crlfL (13 :: 10 :: r) = _; rw [crlfL]; rfl
  miss c r h := by
    rw [crlfL]
    intro r' h1 h2
    exact h ⟨r', by rw [h1, h2]; rfl⟩
theorem esc_turn (l : List Nat) : turn1L 34 [92, 34] (turn1L 92 [92, 92] l) = escL l := by
  induction l with
  | nil => rfl
  | cons c r ih =>
    by_cases h : c = 92
    · subst h
      rw [escL_cons_esc (.inr rfl), ← ih]
      simp only [turn1L, if_true, List.cons_append, List.nil_append]
      simp only [show ¬ (92 = 34) by decide, if_false]
    · by_cases h2 : c = 34
      · subst h2
        rw [escL_cons_esc (.inl rfl), ← ih]
        simp only [turn1L, show ¬ (34 = 92) by decide, if_false, if_true, List.cons_append, List.nil_append]
      · rw [escL_cons_plain (by rintro (e | e); exact h2 e; exact h e), ← ih]
        simp only [turn1L, if_neg h, if_neg h2]
theorem str1 (c : Nat) (s : String) (h : (Str.ofString s).cps.toList = [c]) : 1 ≤ (Str.ofString s).length := by
  have e : (Str.ofString s).cps.toList.length = (Str.ofString s).length := Array.length_toList
  rw [← e, h]; exact Nat.le_refl 1
theorem replace_esc (x : Str) : (Txt.replace (Txt.replace x (Str.ofString "\\") (Str.ofString "\\\\")) (Str.ofString "\"") (Str.ofString "\\\"")).cps.toList = escL x.cps.toList := by
  have a1 : (Str.ofString "\\").cps.toList = [92] := by decide +kernel
  have a2 : (Str.ofString "\\\\").cps.toList = [92, 92] := by decide +kernel
  have a3 : (Str.ofString "\"").cps.toList = [34] := by decide +kernel
  have a4 : (Str.ofString "\\\"").cps.toList = [92, 34] := by decide +kernel
  rw [replace_turns (g := turn1L 34 [92, 34]) (str1 34 _ a3) _ (by rw [a3, a4]; exact turns1 _ _),
    replace_turns (g := turn1L 92 [92, 92]) (str1 92 _ a1) _ (by rw [a1, a2]; exact turns1 _ _), esc_turn]
abbrev lfL (l : List Nat) : List Nat := turn1L 13 [10] (crlfL l)
theorem rows_lf (x : Str) : (Txt.replace (Txt.replace x (Str.ofString "\x0d\n") (Str.ofString "\n")) (Str.ofString "\x0d") (Str.ofString "\n")).cps.toList = lfL x.cps.toList := by
  have a1 : (Str.ofString "\x0d\n").cps.toList = [13, 10] := by decide +kernel
  have a2 : (Str.ofString "\n").cps.toList = [10] := by decide +kernel
  have a3 : (Str.ofString "\x0d").cps.toList = [13] := by decide +kernel
  have h2 : 1 ≤ (Str.ofString "\x0d\n").length := by
    have e : (Str.ofString "\x0d\n").cps.toList.length = (Str.ofString "\x0d\n").length := Array.length_toList
    rw [← e, a1]; decide
  rw [replace_turns (g := turn1L 13 [10]) (str1 13 _ a3) _ (by rw [a3, a2]; exact turns1 _ _),
    replace_turns (g := crlfL) h2 _ (by rw [a1, a2]; exact turns2)]
/-- CRLF for each LF -/
def crl : List Nat → List Nat := turn1L 10 [13, 10]
theorem crlfL_other {c : Nat} {r : List Nat} (h : ¬ (c = 13 ∧ r.head? = some 10)) : crlfL (c :: r) = c :: crlfL r := by
  rw [crlfL]
  intro r' h1 h2
  exact h ⟨h1, by rw [h2]; rfl⟩
theorem crl_lf (l : List Nat) : crl (lfL l) = eolL l := by
  refine eol_ind (P := fun l => crl (lfL l) = eolL l) rfl ?_ ?_ ?_ ?_ l
  · intro r h
    rw [eolL_crlf, ← h]
    show turn1L 10 [13, 10] (turn1L 13 [10] (crlfL (13 :: 10 :: r))) = _
    rw [crlfL]
    simp only [turn1L, crl, lfL, show ¬ (10 = 13) by decide, if_false, if_true, List.cons_append, List.nil_append]
  · intro r hr h
    rw [eolL_cr hr, ← h]
    show turn1L 10 [13, 10] (turn1L 13 [10] (crlfL (13 :: r))) = _
    rw [crlfL_other (fun e => hr e.2)]
    simp only [turn1L, crl, lfL, if_true, List.cons_append, List.nil_append]
  · intro r h
    rw [eolL_lf, ← h]
    show turn1L 10 [13, 10] (turn1L 13 [10] (crlfL (10 :: r))) = _
    rw [crlfL_other (fun e => absurd e.1 (by decide))]
    simp only [turn1L, crl, lfL, show ¬ (10 = 13) by decide, if_false, if_true, List.cons_append, List.nil_append]
  · intro c r h1 h2 h
    rw [eolL_cons h1 h2, ← h]
    show turn1L 10 [13, 10] (turn1L 13 [10] (crlfL (c :: r))) = _
    rw [crlfL_other (fun e => h1 e.1)]
    simp only [turn1L, crl, lfL, if_neg h1, if_neg h2]
end Mine
end

-- P4
noncomputable section
open PySem PySem.W PyProof.Rows
open Builtin Builtin.Str StrLaws
namespace Mine
noncomputable def interL (sep : List Nat) : List (List Nat) → List Nat
  | [] => []
  | [p] => p
  | p :: q :: r => p ++ sep ++ interL sep (q :: r)
theorem join_inter (sep : Str) : ∀ parts : List Str, (Str.join sep parts).cps.toList = interL sep.cps.toList (parts.map (·.cps.toList))
  | [] => rfl
  | [_] => rfl
  | p :: q :: r => by
    have ih := join_inter sep (q :: r)
    show (p ++ sep ++ Str.join sep (q :: r)).cps.toList = p.cps.toList ++ sep.cps.toList ++ interL sep.cps.toList ((q :: r).map (·.cps.toList))
    simp only [Str.cps_append, Array.toList_append]
    rw [ih]
abbrev NL : Str := Str.ofString "\n"
theorem nl_is : NL = ⟨#[10]⟩ := by decide +kernel
/-- the rows of a text, as lists of codes -/
def rowsL (x : Str) : List (List Nat) := (Txt.split (Txt.replace (Txt.replace x (Str.ofString "\x0d\n") NL) (Str.ofString "\x0d") NL) NL).map (·.cps.toList)
theorem rows_free (x : Str) : ∀ r ∈ rowsL x, 10 ∉ r := by
  intro r hr
  unfold rowsL at hr
  rw [nl_is] at hr
  obtain ⟨s, hs, rfl⟩ := List.mem_map.mp hr
  exact split_free _ 10 s hs
theorem rows_join (x : Str) : interL [10] (rowsL x) = lfL x.cps.toList := by
  have a2 : NL.cps.toList = [10] := by decide +kernel
  unfold rowsL
  rw [← a2, ← join_inter, join_split, rows_lf]
theorem split_ne (x y : Str) : Txt.split x y ≠ [] := by
  unfold Txt.split
  split
  · simp
  · split
    · simp
    · rw [partsBetween_eq]
      obtain ⟨p, r, e⟩ := partsFrom_ne x y.length 0 (occurrences x y 0 x.length (x.length + 1))
      rw [e]; simp
theorem rows_ne (x : Str) : rowsL x ≠ [] := by
  unfold rowsL
  intro h
  exact split_ne _ _ (List.map_eq_nil_iff.mp h)
theorem count_free {c : Nat} {l : List Nat} (h : c ∉ l) : l.count c = 0 := List.count_eq_zero.mpr h
theorem count_inter : ∀ R : List (List Nat), R ≠ [] → (∀ r ∈ R, 10 ∉ r) → R.length = 1 + (interL [10] R).count 10
  | [], h, _ => absurd rfl h
  | [p], _, h => by
    show 1 = 1 + p.count 10
    rw [count_free (h p (List.mem_singleton.mpr rfl))]
  | p :: q :: r, _, h => by
    have ih := count_inter (q :: r) (by simp) fun a ha => h a (List.mem_cons_of_mem _ ha)
    show (q :: r).length + 1 = 1 + (p ++ [10] ++ interL [10] (q :: r)).count 10
    rw [List.count_append, List.count_append, count_free (h p List.mem_cons_self), ih]
    simp only [List.count_cons_self, List.count_nil]
    omega
theorem count_crl (l : List Nat) : (crl l).count 10 = l.count 10 := by
  induction l with
  | nil => rfl
  | cons c r ih =>
    unfold crl at ih ⊢
    by_cases h : c = 10
    · subst h
      simp only [turn1L, if_true, List.cons_append, List.nil_append, List.count_cons_self]
      rw [List.count_cons_of_ne (by decide), List.count_cons_self, ih]
    · simp only [turn1L, if_neg h]
      rw [List.count_cons_of_ne h, List.count_cons_of_ne h, ih]
theorem count_esc (l : List Nat) : (escL l).count 10 = l.count 10 := by
  induction l with
  | nil => rfl
  | cons c r ih =>
    by_cases h : c = 34 ∨ c = 92
    · have hc : c ≠ 10 := by rcases h with h | h <;> rw [h] <;> decide
      rw [escL_cons_esc h, List.count_cons_of_ne (by decide), List.count_cons_of_ne hc, List.count_cons_of_ne hc, ih]
    · rw [escL_cons_plain h, List.count_cons, List.count_cons, ih]
theorem count_env (y : List Nat) : (envL y).count 10 = 1 + y.count 10 := by
  show (13 :: 10 :: 34 :: (escL y ++ [34, 110])).count 10 = _
  rw [List.count_cons_of_ne (by decide), List.count_cons_self, List.count_cons_of_ne (by decide), List.count_append, count_esc]
  have : ([34, 110] : List Nat).count 10 = 0 := by decide
  omega
theorem rows_count (x : Str) (h : Norm x.cps.toList) : (rowsL x).length = 1 + x.cps.toList.count 10 := by
  rw [count_inter _ (rows_ne x) (rows_free x), rows_join, ← count_crl, crl_lf, h]
/-- dots at a row -/
def dotn (k : Nat) (r : List Nat) : List Nat := if r.head? = some 46 then List.replicate k 46 ++ r else r
theorem dotn_free {k : Nat} {r : List Nat} (h : 10 ∉ r) : 10 ∉ dotn k r := by
  unfold dotn
  split
  · intro hm
    rcases List.mem_append.mp hm with q | q
    · exact absurd (List.eq_of_mem_replicate q) (by decide)
    · exact h q
  · exact h
theorem dotn_succ (k : Nat) (r : List Nat) : dotn 1 (dotn k r) = dotn (k + 1) r := by
  unfold dotn
  by_cases h : r.head? = some 46
  · rw [if_pos h, if_pos h]
    have : (List.replicate k 46 ++ r).head? = some 46 := by
      cases k with
      | zero => exact h
      | succ k => rfl
    rw [if_pos this]
    rfl
  · rw [if_neg h, if_neg h, if_neg h]
theorem dotn_zero (r : List Nat) : dotn 0 r = r := by unfold dotn; split <;> rfl
/-- within a row -/
theorem dot_in : ∀ (r : List Nat), 10 ∉ r → ∀ rest, dotL false (r ++ rest) = r ++ dotL false rest := by
  intro r
  induction r with
  | nil => intro _ _; rfl
  | cons c r ih =>
    intro h rest
    have hc : c ≠ 10 := fun e => h (by rw [e]; exact List.mem_cons_self)
    show dotL false (c :: (r ++ rest)) = c :: (r ++ _)
    rw [dotL_false, beq_eq_false_iff_ne.mpr hc, ih (fun m => h (List.mem_cons_of_mem _ m))]
theorem dot_in1 (r : List Nat) (h : 10 ∉ r) (rest : List Nat) (hr : rest.head? ≠ some 46) : dotL true (r ++ rest) = dotn 1 r ++ (if r = [] then dotL true rest else dotL false rest) := by
  cases r with
  | nil => rfl
  | cons c r =>
    have hc : c ≠ 10 := fun e => h (by rw [e]; exact List.mem_cons_self)
    have hr' : 10 ∉ r := fun m => h (List.mem_cons_of_mem _ m)
    rw [if_neg (by simp)]
    show dotL true (c :: (r ++ rest)) = _
    unfold dotn
    by_cases h46 : c = 46
    · subst h46
      rw [dotL_dot, dot_in r hr', if_pos (show (46 :: r).head? = some 46 from rfl)]
      rfl
    · rw [dotL_other h46, beq_eq_false_iff_ne.mpr hc, dot_in r hr', if_neg (by simpa using h46)]
      rfl
theorem dot_row (b : Bool) (r : List Nat) (h : 10 ∉ r) : dotL b r = if b = true then dotn 1 r else r := by
  cases b with
  | false => have := dot_in r h []; rw [List.append_nil] at this; rw [this]; show r ++ [] = _; rw [List.append_nil]; rfl
  | true =>
    have := dot_in1 r h [] (by simp)
    rw [List.append_nil] at this
    rw [this]
    have e : (if r = [] then dotL true [] else dotL false []) = [] := by split <;> rfl
    rw [e, List.append_nil]
    rfl
theorem dot_rowc (b : Bool) (r rest : List Nat) (h : 10 ∉ r) : dotL b (r ++ [13, 10] ++ rest) = (if b = true then dotn 1 r else r) ++ [13, 10] ++ dotL true rest := by
  rw [List.append_assoc]
  have e1 : ∀ b', dotL b' ([13, 10] ++ rest) = [13, 10] ++ dotL true rest := by
    intro b'
    show dotL b' (13 :: 10 :: rest) = 13 :: 10 :: dotL true rest
    rw [dotL_other (by decide), dotL_other (by decide)]
    rfl
  cases b with
  | false => rw [dot_in r h, e1]; simp
  | true =>
    rw [dot_in1 r h _ (by simp)]
    have e : (if r = [] then dotL true ([13, 10] ++ rest) else dotL false ([13, 10] ++ rest)) = [13, 10] ++ dotL true rest := by split <;> exact e1 _
    rw [e]
    simp
theorem dot_inter : ∀ (R : List (List Nat)) (b : Bool), (∀ r ∈ R, 10 ∉ r) → dotL b (interL [13, 10] R) = interL [13, 10] (match R with | [] => [] | r :: rs => (if b = true then dotn 1 r else r) :: rs.map (dotn 1))
  | [], b, _ => by cases b <;> rfl
  | [p], b, h => dot_row b p (h p (List.mem_singleton.mpr rfl))
  | p :: q :: r, b, h => by
    have ih := dot_inter (q :: r) true fun a ha => h a (List.mem_cons_of_mem _ ha)
    show dotL b (p ++ [13, 10] ++ interL [13, 10] (q :: r)) = _
    rw [dot_rowc b p _ (h p List.mem_cons_self), ih]
    rfl
theorem dots_inter (r0 : List Nat) (rs : List (List Nat)) (h0 : 10 ∉ r0) (h : ∀ r ∈ rs, 10 ∉ r) (j : Nat) : ∀ k, dots k (interL [13, 10] (r0 :: rs.map (dotn j))) = interL [13, 10] (r0 :: rs.map (dotn (j + k))) := by
  intro k
  induction k with
  | zero => rfl
  | succ k ih =>
    show dotL false (dots k _) = _
    rw [ih, dot_inter]
    · simp only [Bool.false_eq_true, if_false, List.map_map]
      congr 2
      apply List.map_congr_left
      intro r _
      exact dotn_succ (j + k) r
    · intro r hr
      rcases List.mem_cons.mp hr with e | e
      · rw [e]; exact h0
      · obtain ⟨q, hq, rfl⟩ := List.mem_map.mp e
        exact dotn_free (h q hq)
theorem crl_free : ∀ (r : List Nat), 10 ∉ r → ∀ rest, crl (r ++ rest) = r ++ crl rest := by
  intro r
  unfold crl
  induction r with
  | nil => intro _ _; rfl
  | cons c r ih =>
    intro h rest
    have hc : c ≠ 10 := fun e => h (by rw [e]; exact List.mem_cons_self)
    show turn1L 10 [13, 10] (c :: (r ++ rest)) = c :: (r ++ _)
    simp only [turn1L, if_neg hc]
    rw [ih (fun m => h (List.mem_cons_of_mem _ m))]
theorem crl_inter : ∀ R : List (List Nat), (∀ r ∈ R, 10 ∉ r) → crl (interL [10] R) = interL [13, 10] R
  | [], _ => rfl
  | [p], h => by
    have := crl_free p (h p (List.mem_singleton.mpr rfl)) []
    rw [List.append_nil] at this
    show crl p = p
    rw [this]
    show p ++ [] = p
    rw [List.append_nil]
  | p :: q :: r, h => by
    have ih := crl_inter (q :: r) fun a ha => h a (List.mem_cons_of_mem _ ha)
    show crl (p ++ [10] ++ interL [10] (q :: r)) = p ++ [13, 10] ++ interL [13, 10] (q :: r)
    rw [List.append_assoc, crl_free p (h p List.mem_cons_self)]
    show p ++ (13 :: 10 :: crl (interL [10] (q :: r))) = _
    rw [ih]
    simp
theorem eol_rows (x : Str) : eolL x.cps.toList = interL [13, 10] (rowsL x) := by
  rw [← crl_lf, ← rows_join, crl_inter _ (rows_free x)]
/-- what the law asks at its end -/
theorem last_law (x : Str) (k : Nat) (r0 : List Nat) (rs : List (List Nat)) (h : rowsL x = r0 :: rs) : dots k (dotL true (eolL x.cps.toList)) = interL [13, 10] (dotn 1 r0 :: rs.map (dotn (1 + k))) := by
  have hf := rows_free x
  rw [h] at hf
  rw [eol_rows, h, dot_inter _ _ hf]
  simp only [if_true]
  exact dots_inter _ _ (dotn_free (hf r0 List.mem_cons_self)) (fun r hr => hf r (List.mem_cons_of_mem _ hr)) 1 k
end Mine
end

-- SR1
noncomputable section
open PySem PySem.W PyProof.Rows PySem.Sre
set_option maxRecDepth 100000
namespace Mine
inductive IsCode : List Value → List Nat → Prop
  | nil : IsCode [] []
  | cons {n : Nat} {t : Tok} {vs : List Value} {ns : List Nat} : IsCode vs ns → IsCode (.int (Int.ofNat n) t :: vs) (n :: ns)
noncomputable def seqOf (P : Params) (a : Addr) : List Value := match (hd.heap_39 P).lookup a with
  | some ⟨_, _, .seq vs _, _⟩ => vs.toList
  | _ => []
def C1D : { c : List Nat // ∀ P, IsCode (seqOf P 84) c } := ⟨_, by intro P; repeat' constructor⟩
def C2D : { c : List Nat // ∀ P, IsCode (seqOf P 89) c } := ⟨_, by intro P; repeat' constructor⟩
abbrev mk (C T : Array Nat) (st pc pos hd : Nat) (om : Bool) (fr : List Sre.Frame) (w : Nat) (an : Option Bool) (ma : Bool) (sn : Sre.Seen) : M :=
  { code := C, text := T, lim := T.size, start := st, lastStart := T.size, mustAdvance := ma, pc := pc, pos := pos, handed := hd, outermost := om, marks := #[], frames := fr, weight := w, answer := an, seen := sn }
def Outs (o : Option (Nat × Nat)) (m : M) : Prop := match o with
  | some (a, b) => m.outcome = some .matched ∧ m.start = a ∧ m.handed = b
  | none => m.outcome = some .failed
def Ends (m : M) (n : Nat) (o : Option (Nat × Nat)) : Prop := ∃ k, k ≤ n ∧ Outs o (M.runFor k m)
theorem Ends.step {m : M} {n : Nat} {o : Option (Nat × Nat)} (h0 : m.outcome = none) (h : Ends m.step n o) : Ends m (n + 1) o := by
  obtain ⟨k, hk, h⟩ := h
  refine ⟨k + 1, by omega, ?_⟩
  have e : M.runFor (k + 1) m = M.runFor k m.step := by
    show (if m.outcome.isSome then m else M.runFor k m.step) = _
    rw [h0]; rfl
  rw [e]; exact h
theorem Ends.mono {m : M} {n n' : Nat} {o : Option (Nat × Nat)} (h : Ends m n o) (hn : n ≤ n') : Ends m n' o := by
  obtain ⟨k, hk, h⟩ := h
  exact ⟨k, by omega, h⟩
abbrev B2 : Array Nat := C2D.1.toArray
abbrev B1 : Array Nat := C1D.1.toArray
section
variable {C T : Array Nat} {st pc p hd' : Nat} {om ma : Bool} {fr : List Sre.Frame} {w : Nat} {sn : Sre.Seen} {n : Nat} {o : Option (Nat × Nat)}
theorem acc12 (c : Nat) (sn : Sre.Seen) : accepts B2 12 c sn = .ok (c == 13, sn) := rfl
theorem hit12 (hp : p < T.size) (hc : T.getD p 0 = 13) (h : ∀ sn, Ends (mk B2 T st 14 (p + 1) hd' om fr w none ma sn) n o) : Ends (mk B2 T st 12 p hd' om fr w none ma sn) (n + 1) o := by
  refine Ends.step rfl ?_
  have e : (mk B2 T st 12 p hd' om fr w none ma sn).step = mk B2 T st 14 (p + 1) hd' om fr w none ma (sn.add 16) := by
    have e1 : (mk B2 T st 12 p hd' om fr w none ma sn).step = (mk B2 T st 12 p hd' om fr w none ma sn).exec := rfl
    rw [e1]
    unfold M.exec
    have e2 : ops[(mk B2 T st 12 p hd' om fr w none ma sn).word 0]? = some .LITERAL := rfl
    rw [e2]
    dsimp only
    rw [if_neg (by omega), acc12, beq_iff_eq.mpr hc]
    rfl
  rw [e]
  exact h _
theorem miss12 (hc : p < T.size → T.getD p 0 ≠ 13) (h : ∀ sn, Ends (mk B2 T st 12 p hd' om fr w (some false) ma sn) n o) : Ends (mk B2 T st 12 p hd' om fr w none ma sn) (n + 1) o := by
  refine Ends.step rfl ?_
  have e : (mk B2 T st 12 p hd' om fr w none ma sn).step = mk B2 T st 12 p hd' om fr w (some false) ma (sn.add 16) := by
    have e1 : (mk B2 T st 12 p hd' om fr w none ma sn).step = (mk B2 T st 12 p hd' om fr w none ma sn).exec := rfl
    rw [e1]
    unfold M.exec
    have e2 : ops[(mk B2 T st 12 p hd' om fr w none ma sn).word 0]? = some .LITERAL := rfl
    rw [e2]
    dsimp only
    by_cases hp : p < T.size
    · rw [if_neg (by omega), acc12, beq_eq_false_iff_ne.mpr (hc hp)]
      rfl
    · rw [if_pos (by omega)]
      rfl
  rw [e]
  exact h _
theorem acc14 (c : Nat) (sn : Sre.Seen) : accepts B2 14 c sn = .ok (c == 10, sn) := rfl
theorem hit14 (hp : p < T.size) (hc : T.getD p 0 = 10) (h : ∀ sn, Ends (mk B2 T st 16 (p + 1) hd' om fr w none ma sn) n o) : Ends (mk B2 T st 14 p hd' om fr w none ma sn) (n + 1) o := by
  refine Ends.step rfl ?_
  have e : (mk B2 T st 14 p hd' om fr w none ma sn).step = mk B2 T st 16 (p + 1) hd' om fr w none ma (sn.add 16) := by
    have e1 : (mk B2 T st 14 p hd' om fr w none ma sn).step = (mk B2 T st 14 p hd' om fr w none ma sn).exec := rfl
    rw [e1]
    unfold M.exec
    have e2 : ops[(mk B2 T st 14 p hd' om fr w none ma sn).word 0]? = some .LITERAL := rfl
    rw [e2]
    dsimp only
    rw [if_neg (by omega), acc14, beq_iff_eq.mpr hc]
    rfl
  rw [e]
  exact h _
theorem miss14 (hc : p < T.size → T.getD p 0 ≠ 10) (h : ∀ sn, Ends (mk B2 T st 14 p hd' om fr w (some false) ma sn) n o) : Ends (mk B2 T st 14 p hd' om fr w none ma sn) (n + 1) o := by
  refine Ends.step rfl ?_
  have e : (mk B2 T st 14 p hd' om fr w none ma sn).step = mk B2 T st 14 p hd' om fr w (some false) ma (sn.add 16) := by
    have e1 : (mk B2 T st 14 p hd' om fr w none ma sn).step = (mk B2 T st 14 p hd' om fr w none ma sn).exec := rfl
    rw [e1]
    unfold M.exec
    have e2 : ops[(mk B2 T st 14 p hd' om fr w none ma sn).word 0]? = some .LITERAL := rfl
    rw [e2]
    dsimp only
    by_cases hp : p < T.size
    · rw [if_neg (by omega), acc14, beq_eq_false_iff_ne.mpr (hc hp)]
      rfl
    · rw [if_pos (by omega)]
      rfl
  rw [e]
  exact h _
theorem acc19 (c : Nat) (sn : Sre.Seen) : accepts B2 19 c sn = .ok (c == 10, sn) := rfl
theorem hit19 (hp : p < T.size) (hc : T.getD p 0 = 10) (h : ∀ sn, Ends (mk B2 T st 21 (p + 1) hd' om fr w none ma sn) n o) : Ends (mk B2 T st 19 p hd' om fr w none ma sn) (n + 1) o := by
  refine Ends.step rfl ?_
  have e : (mk B2 T st 19 p hd' om fr w none ma sn).step = mk B2 T st 21 (p + 1) hd' om fr w none ma (sn.add 16) := by
    have e1 : (mk B2 T st 19 p hd' om fr w none ma sn).step = (mk B2 T st 19 p hd' om fr w none ma sn).exec := rfl
    rw [e1]
    unfold M.exec
    have e2 : ops[(mk B2 T st 19 p hd' om fr w none ma sn).word 0]? = some .LITERAL := rfl
    rw [e2]
    dsimp only
    rw [if_neg (by omega), acc19, beq_iff_eq.mpr hc]
    rfl
  rw [e]
  exact h _
theorem miss19 (hc : p < T.size → T.getD p 0 ≠ 10) (h : ∀ sn, Ends (mk B2 T st 19 p hd' om fr w (some false) ma sn) n o) : Ends (mk B2 T st 19 p hd' om fr w none ma sn) (n + 1) o := by
  refine Ends.step rfl ?_
  have e : (mk B2 T st 19 p hd' om fr w none ma sn).step = mk B2 T st 19 p hd' om fr w (some false) ma (sn.add 16) := by
    have e1 : (mk B2 T st 19 p hd' om fr w none ma sn).step = (mk B2 T st 19 p hd' om fr w none ma sn).exec := rfl
    rw [e1]
    unfold M.exec
    have e2 : ops[(mk B2 T st 19 p hd' om fr w none ma sn).word 0]? = some .LITERAL := rfl
    rw [e2]
    dsimp only
    by_cases hp : p < T.size
    · rw [if_neg (by omega), acc19, beq_eq_false_iff_ne.mpr (hc hp)]
      rfl
    · rw [if_pos (by omega)]
      rfl
  rw [e]
  exact h _
theorem acc24 (c : Nat) (sn : Sre.Seen) : accepts B2 24 c sn = .ok (c == 13, sn) := rfl
theorem hit24 (hp : p < T.size) (hc : T.getD p 0 = 13) (h : ∀ sn, Ends (mk B2 T st 26 (p + 1) hd' om fr w none ma sn) n o) : Ends (mk B2 T st 24 p hd' om fr w none ma sn) (n + 1) o := by
  refine Ends.step rfl ?_
  have e : (mk B2 T st 24 p hd' om fr w none ma sn).step = mk B2 T st 26 (p + 1) hd' om fr w none ma (sn.add 16) := by
    have e1 : (mk B2 T st 24 p hd' om fr w none ma sn).step = (mk B2 T st 24 p hd' om fr w none ma sn).exec := rfl
    rw [e1]
    unfold M.exec
    have e2 : ops[(mk B2 T st 24 p hd' om fr w none ma sn).word 0]? = some .LITERAL := rfl
    rw [e2]
    dsimp only
    rw [if_neg (by omega), acc24, beq_iff_eq.mpr hc]
    rfl
  rw [e]
  exact h _
theorem miss24 (hc : p < T.size → T.getD p 0 ≠ 13) (h : ∀ sn, Ends (mk B2 T st 24 p hd' om fr w (some false) ma sn) n o) : Ends (mk B2 T st 24 p hd' om fr w none ma sn) (n + 1) o := by
  refine Ends.step rfl ?_
  have e : (mk B2 T st 24 p hd' om fr w none ma sn).step = mk B2 T st 24 p hd' om fr w (some false) ma (sn.add 16) := by
    have e1 : (mk B2 T st 24 p hd' om fr w none ma sn).step = (mk B2 T st 24 p hd' om fr w none ma sn).exec := rfl
    rw [e1]
    unfold M.exec
    have e2 : ops[(mk B2 T st 24 p hd' om fr w none ma sn).word 0]? = some .LITERAL := rfl
    rw [e2]
    dsimp only
    by_cases hp : p < T.size
    · rw [if_neg (by omega), acc24, beq_eq_false_iff_ne.mpr (hc hp)]
      rfl
    · rw [if_pos (by omega)]
      rfl
  rw [e]
  exact h _
theorem acc29 (c : Nat) (sn : Sre.Seen) : accepts B2 29 c sn = .ok (c == 10, sn) := rfl
theorem hit29 (hp : p < T.size) (hc : T.getD p 0 = 10) (h : ∀ sn, Ends (mk B2 T st 31 (p + 1) hd' om fr w none ma sn) n o) : Ends (mk B2 T st 29 p hd' om fr w none ma sn) (n + 1) o := by
  refine Ends.step rfl ?_
  have e : (mk B2 T st 29 p hd' om fr w none ma sn).step = mk B2 T st 31 (p + 1) hd' om fr w none ma (sn.add 16) := by
    have e1 : (mk B2 T st 29 p hd' om fr w none ma sn).step = (mk B2 T st 29 p hd' om fr w none ma sn).exec := rfl
    rw [e1]
    unfold M.exec
    have e2 : ops[(mk B2 T st 29 p hd' om fr w none ma sn).word 0]? = some .LITERAL := rfl
    rw [e2]
    dsimp only
    rw [if_neg (by omega), acc29, beq_iff_eq.mpr hc]
    rfl
  rw [e]
  exact h _
theorem miss29 (hc : p < T.size → T.getD p 0 ≠ 10) (h : ∀ sn, Ends (mk B2 T st 29 p hd' om fr w (some false) ma sn) n o) : Ends (mk B2 T st 29 p hd' om fr w none ma sn) (n + 1) o := by
  refine Ends.step rfl ?_
  have e : (mk B2 T st 29 p hd' om fr w none ma sn).step = mk B2 T st 29 p hd' om fr w (some false) ma (sn.add 16) := by
    have e1 : (mk B2 T st 29 p hd' om fr w none ma sn).step = (mk B2 T st 29 p hd' om fr w none ma sn).exec := rfl
    rw [e1]
    unfold M.exec
    have e2 : ops[(mk B2 T st 29 p hd' om fr w none ma sn).word 0]? = some .LITERAL := rfl
    rw [e2]
    dsimp only
    by_cases hp : p < T.size
    · rw [if_neg (by omega), acc29, beq_eq_false_iff_ne.mpr (hc hp)]
      rfl
    · rw [if_pos (by omega)]
      rfl
  rw [e]
  exact h _
theorem acc7 (c : Nat) (sn : Sre.Seen) : accepts B1 7 c sn = .ok (c == 46, sn) := rfl
theorem hit7 (hp : p < T.size) (hc : T.getD p 0 = 46) (h : ∀ sn, Ends (mk B1 T st 9 (p + 1) hd' om fr w none ma sn) n o) : Ends (mk B1 T st 7 p hd' om fr w none ma sn) (n + 1) o := by
  refine Ends.step rfl ?_
  have e : (mk B1 T st 7 p hd' om fr w none ma sn).step = mk B1 T st 9 (p + 1) hd' om fr w none ma (sn.add 16) := by
    have e1 : (mk B1 T st 7 p hd' om fr w none ma sn).step = (mk B1 T st 7 p hd' om fr w none ma sn).exec := rfl
    rw [e1]
    unfold M.exec
    have e2 : ops[(mk B1 T st 7 p hd' om fr w none ma sn).word 0]? = some .LITERAL := rfl
    rw [e2]
    dsimp only
    rw [if_neg (by omega), acc7, beq_iff_eq.mpr hc]
    rfl
  rw [e]
  exact h _
theorem miss7 (hc : p < T.size → T.getD p 0 ≠ 46) (h : ∀ sn, Ends (mk B1 T st 7 p hd' om fr w (some false) ma sn) n o) : Ends (mk B1 T st 7 p hd' om fr w none ma sn) (n + 1) o := by
  refine Ends.step rfl ?_
  have e : (mk B1 T st 7 p hd' om fr w none ma sn).step = mk B1 T st 7 p hd' om fr w (some false) ma (sn.add 16) := by
    have e1 : (mk B1 T st 7 p hd' om fr w none ma sn).step = (mk B1 T st 7 p hd' om fr w none ma sn).exec := rfl
    rw [e1]
    unfold M.exec
    have e2 : ops[(mk B1 T st 7 p hd' om fr w none ma sn).word 0]? = some .LITERAL := rfl
    rw [e2]
    dsimp only
    by_cases hp : p < T.size
    · rw [if_neg (by omega), acc7, beq_eq_false_iff_ne.mpr (hc hp)]
      rfl
    · rw [if_pos (by omega)]
      rfl
  rw [e]
  exact h _
abbrev fS (s : Nat) (om : Bool) : Sre.Frame := { wait := .nextStart, pc := 10, pos := s, outermost := om }
abbrev fB (pc s : Nat) (om : Bool) : Sre.Frame := { wait := .nextBranch, pc := pc, pos := s, outermost := om }
abbrev fL (p : Nat) (om : Bool) : Sre.Frame := { wait := .lookNot, pc := 26, pos := p, outermost := om }
theorem branch2 (h : ∀ sn, Ends (mk B2 T st 12 p p om (fB 11 p om :: fr) 2 none ma sn) n o) : Ends (mk B2 T st 10 p hd' om fr 1 none ma sn) (n + 1) o := Ends.step rfl (h _)
theorem next18 {q : Nat} {om' : Bool} (h : ∀ sn, Ends (mk B2 T st 19 q q om' (fB 18 q om' :: fr) 2 none ma sn) n o) : Ends (mk B2 T st pc p hd' om (fB 11 q om' :: fr) 2 (some false) ma sn) (n + 1) o := Ends.step rfl (h _)
theorem next23 {q : Nat} {om' : Bool} (h : ∀ sn, Ends (mk B2 T st 24 q q om' (fB 23 q om' :: fr) 2 none ma sn) n o) : Ends (mk B2 T st pc p hd' om (fB 18 q om' :: fr) 2 (some false) ma sn) (n + 1) o := Ends.step rfl (h _)
theorem jump16 (h : ∀ sn, Ends (mk B2 T st 35 p hd' om fr w none ma sn) n o) : Ends (mk B2 T st 16 p hd' om fr w none ma sn) (n + 1) o := Ends.step rfl (h _)
theorem jump21 (h : ∀ sn, Ends (mk B2 T st 35 p hd' om fr w none ma sn) n o) : Ends (mk B2 T st 21 p hd' om fr w none ma sn) (n + 1) o := Ends.step rfl (h _)
theorem jump32 (h : ∀ sn, Ends (mk B2 T st 35 p hd' om fr w none ma sn) n o) : Ends (mk B2 T st 32 p hd' om fr w none ma sn) (n + 1) o := Ends.step rfl (h _)
theorem assert26 (h : ∀ sn, Ends (mk B2 T st 29 p p false (fL p om :: fr) 3 none ma sn) n o) : Ends (mk B2 T st 26 p hd' om fr 2 none ma sn) (n + 1) o := Ends.step rfl (h _)
theorem lookNo {q : Nat} {om' : Bool} (h : ∀ sn, Ends (mk B2 T st 32 q hd' om' fr 2 none ma sn) n o) : Ends (mk B2 T st pc p hd' om (fL q om' :: fr) 3 (some false) ma sn) (n + 1) o := Ends.step rfl (h _)
theorem succ35 (h : ∀ sn, Ends (mk B2 T st 35 p p om fr w (some true) false sn) n o) : Ends (mk B2 T st 35 p hd' om fr w none false sn) (n + 1) o := by
  refine Ends.step rfl ?_
  have e : (mk B2 T st 35 p hd' om fr w none false sn).step = mk B2 T st 35 p p om fr w (some true) false (sn.add 1) := by
    have e1 : (mk B2 T st 35 p hd' om fr w none false sn).step = (mk B2 T st 35 p hd' om fr w none false sn).exec := rfl
    rw [e1]
    unfold M.exec
    have e2 : ops[(mk B2 T st 35 p hd' om fr w none false sn).word 0]? = some .SUCCESS := rfl
    rw [e2]
    dsimp only
    rw [if_neg (by simp)]
    rfl
  rw [e]
  exact h _
theorem backB {q pc' : Nat} {om' : Bool} (h : ∀ sn, Ends (mk B2 T st pc' q hd' om' fr 1 (some true) ma sn) n o) : Ends (mk B2 T st pc p hd' om (fB pc' q om' :: fr) 2 (some true) ma sn) (n + 1) o := Ends.step rfl (h _)
theorem backS {q : Nat} {om' : Bool} (h : ∀ sn, Ends (mk B2 T st 10 q hd' om' [] 0 (some true) ma sn) n o) : Ends (mk B2 T st pc p hd' om [fS q om'] 1 (some true) ma sn) (n + 1) o := Ends.step rfl (h _)
theorem done {q : Nat} : Ends (mk C T st pc q hd' om [] w (some true) ma sn) 1 (some (st, hd')) := Ends.step rfl ⟨0, Nat.le_refl _, rfl, rfl, rfl⟩
theorem lost {q : Nat} : Ends (mk C T st pc q hd' om [] w (some false) ma sn) 1 none := Ends.step rfl ⟨0, Nat.le_refl _, rfl⟩
/-- an attempt at a line end -/
theorem at_crlf {q : Nat} (h1 : q + 1 < T.size) (e1 : T.getD q 0 = 13) (e2 : T.getD (q + 1) 0 = 10) : Ends (mk B2 T q 10 q q om [fS q om] 1 none false sn) 20 (some (q, q + 2)) :=
  Ends.mono (branch2 fun _ => hit12 (by omega) e1 fun _ => hit14 h1 e2 fun _ => jump16 fun _ => succ35 fun _ => backB fun _ => backS fun _ => done) (by decide)
theorem at_lf {q : Nat} (h1 : q < T.size) (e1 : T.getD q 0 = 10) : Ends (mk B2 T q 10 q q om [fS q om] 1 none false sn) 20 (some (q, q + 1)) :=
  Ends.mono (branch2 fun _ => miss12 (fun _ => by rw [e1]; decide) fun _ => next18 fun _ => hit19 h1 e1 fun _ => jump21 fun _ => succ35 fun _ => backB fun _ => backS fun _ => done) (by decide)
theorem at_cr {q : Nat} (h1 : q < T.size) (e1 : T.getD q 0 = 13) (e2 : q + 1 < T.size → T.getD (q + 1) 0 ≠ 10) : Ends (mk B2 T q 10 q q om [fS q om] 1 none false sn) 20 (some (q, q + 1)) :=
  Ends.mono (branch2 fun _ => hit12 h1 e1 fun _ => miss14 e2 fun _ => next18 fun _ => miss19 (fun _ => by rw [e1]; decide) fun _ => next23 fun _ => hit24 h1 e1 fun _ => assert26 fun _ => miss29 e2 fun _ => lookNo fun _ => jump32 fun _ => succ35 fun _ => backB fun _ => backS fun _ => done) (by decide)
end
end Mine
end

-- SR2
noncomputable section
open PySem PySem.W PyProof.Rows PySem.Sre
set_option maxRecDepth 100000
namespace Mine
def isEol (c : Nat) : Prop := c = 10 ∨ c = 13
theorem inset (c : Nat) (sn : Sre.Seen) : ∃ sn', inSet B2 c B2.size 5 true sn = .ok (c == 10 || c == 13, sn') := by
  have e1 : inSet B2 c B2.size 5 true sn = if c == 10 then .ok (true, sn.add 16) else inSet B2 c 35 7 true (sn.add 16) := rfl
  have e2 : ∀ sn, inSet B2 c 35 7 true sn = if c == 13 then .ok (true, sn.add 16) else inSet B2 c 34 9 true (sn.add 16) := fun _ => rfl
  have e3 : ∀ sn, inSet B2 c 34 9 true sn = .ok (false, sn.add 0) := fun _ => rfl
  rw [e1, e2, e3]
  by_cases h1 : c == 10
  · rw [if_pos h1, h1]; exact ⟨_, rfl⟩
  · rw [if_neg h1]
    by_cases h2 : c == 13
    · rw [if_pos h2, h2, Bool.or_true]; exact ⟨_, rfl⟩
    · rw [if_neg h2]
      simp only [Bool.not_eq_true] at h1 h2
      rw [h1, h2]; exact ⟨_, rfl⟩
section
variable {T : Array Nat}
theorem adm {m : M} (hc : m.code = B2) (ht : m.text = T) (hl : m.lim = T.size) : ∀ (fuel s : Nat) (sn : Sre.Seen), s + fuel = T.size + 1 →
    (∃ q sn', s ≤ q ∧ q < T.size ∧ isEol (T.getD q 0) ∧ (∀ k, s ≤ k → k < q → ¬ isEol (T.getD k 0)) ∧ M.admitted m fuel s sn = .ok (some q, sn')) ∨
    (∃ sn', (∀ k, s ≤ k → k < T.size → ¬ isEol (T.getD k 0)) ∧ M.admitted m fuel s sn = .ok (none, sn')) := by
  intro fuel
  induction fuel with
  | zero => intro s sn h; exact .inr ⟨sn, fun k h1 h2 => by omega, rfl⟩
  | succ fuel ih =>
    intro s sn h
    have e : M.admitted m (fuel + 1) s sn = if s ≥ T.size then .ok (none, sn) else match inSet B2 (T.getD s 0) B2.size 5 true sn with
        | .ok (true, seen) => .ok (some s, seen)
        | .ok (false, seen) => M.admitted m fuel (s + 1) seen
        | .error why => .error why := by
      rw [M.admitted, hc, ht, hl]
      rfl
    rw [e]
    by_cases hs : s ≥ T.size
    · rw [if_pos hs]; exact .inr ⟨sn, fun k h1 h2 => by omega, rfl⟩
    · rw [if_neg hs]
      obtain ⟨sn', e2⟩ := inset (T.getD s 0) sn
      rw [e2]
      by_cases hb : isEol (T.getD s 0)
      · have hbb : (T.getD s 0 == 10 || T.getD s 0 == 13) = true := by
          rcases hb with h | h <;> rw [h] <;> rfl
        rw [hbb]
        exact .inl ⟨s, sn', Nat.le_refl _, by omega, hb, fun k h1 h2 => by omega, rfl⟩
      · have hbb : (T.getD s 0 == 10 || T.getD s 0 == 13) = false := by
          rw [Bool.or_eq_false_iff, beq_eq_false_iff_ne, beq_eq_false_iff_ne]
          exact ⟨fun h => hb (.inl h), fun h => hb (.inr h)⟩
        rw [hbb]
        dsimp only
        rcases ih (s + 1) sn' (by omega) with ⟨q, sn2, h1, h2, h3, h4, h5⟩ | ⟨sn2, h4, h5⟩
        · refine .inl ⟨q, sn2, by omega, h2, h3, fun k k1 k2 => ?_, h5⟩
          by_cases hk : k = s
          · rw [hk]; exact hb
          · exact h4 k (by omega) k2
        · refine .inr ⟨sn2, fun k k1 k2 => ?_, h5⟩
          by_cases hk : k = s
          · rw [hk]; exact hb
          · exact h4 k (by omega) k2
theorem lost' {m : M} (h1 : m.outcome = none) (h2 : m.answer = some false) (h3 : m.frames = []) : Ends m 1 none := by
  refine Ends.step h1 ⟨0, Nat.le_refl _, ?_⟩
  show m.step.outcome = _
  unfold M.step
  rw [h1, h2, h3]
  rfl
/-- where a line end at q ends -/
def eolEnd (T : Array Nat) (q e : Nat) : Prop := (T.getD q 0 = 13 ∧ q + 1 < T.size ∧ T.getD (q + 1) 0 = 10 ∧ e = q + 2) ∨ (T.getD q 0 = 13 ∧ (q + 1 < T.size → T.getD (q + 1) 0 ≠ 10) ∧ e = q + 1) ∨ (T.getD q 0 = 10 ∧ e = q + 1)
theorem search2 (p : Nat) (hp : p ≤ T.size) :
    (∃ q e, p ≤ q ∧ q < T.size ∧ (∀ k, p ≤ k → k < q → ¬ isEol (T.getD k 0)) ∧ eolEnd T q e ∧ Ends (Sre.forSearch B2 T 0 p T.size false) 20 (some (q, e))) ∨
    ((∀ k, p ≤ k → k < T.size → ¬ isEol (T.getD k 0)) ∧ Ends (Sre.forSearch B2 T 0 p T.size false) 20 none) := by
  by_cases hlt : p < T.size
  · have hs : ∃ sn, Sre.forSearch B2 T 0 p T.size false = M.attemptFrom (mk B2 T p 10 p p true [] 0 none false sn) p true := by
      refine ⟨Sre.Seen.add {} 14, ?_⟩
      have e : Sre.forSearch B2 T 0 p T.size false = if (decide (p > T.size) || decide (T.size - p < 1)) = true then M.say (M.mk B2 T T.size p 0 false false 10 p p true #[] (-1) (-1) #[] none [] 0 none (Sre.Seen.add {} 14) none) false else M.attemptFrom (mk B2 T p 10 p p true [] 0 none false (Sre.Seen.add {} 14)) p true := rfl
      rw [e, if_neg]
      rw [Bool.or_eq_true, decide_eq_true_eq, decide_eq_true_eq]
      omega
    obtain ⟨sn, e⟩ := hs
    rw [e]
    have e2 : M.attemptFrom (mk B2 T p 10 p p true [] 0 none false sn) p true = match M.admitted (mk B2 T p 10 p p true [] 0 none false sn) (T.size + 1 - p) p sn with
        | .ok (some s, seen) => M.attemptAt (mk B2 T p 10 p p true [] 0 none false seen) s true
        | .ok (none, seen) => M.say (mk B2 T p 10 p p true [] 0 none false seen) false
        | .error why => M.stick (mk B2 T p 10 p p true [] 0 none false sn) why := rfl
    rw [e2]
    have hfu : p + (T.size + 1 - p) = T.size + 1 := by omega
    rcases adm (T := T) (m := mk B2 T p 10 p p true [] 0 none false sn) rfl rfl rfl (T.size + 1 - p) p sn hfu with ⟨q, sn', h1, h2, h3, h4, h5⟩ | ⟨sn', h4, h5⟩
    · rw [h5]
      have e3 : M.attemptAt (mk B2 T p 10 p p true [] 0 none false sn') q true = mk B2 T q 10 q q true [fS q true] 1 none false sn' := rfl
      dsimp only
      rw [e3]
      rcases h3 with h3 | h3
      · exact .inl ⟨q, q + 1, h1, h2, h4, .inr (.inr ⟨h3, rfl⟩), at_lf h2 h3⟩
      · by_cases h6 : q + 1 < T.size ∧ T.getD (q + 1) 0 = 10
        · exact .inl ⟨q, q + 2, h1, h2, h4, .inl ⟨h3, h6.1, h6.2, rfl⟩, at_crlf h6.1 h3 h6.2⟩
        · have h7 : q + 1 < T.size → T.getD (q + 1) 0 ≠ 10 := fun a b => h6 ⟨a, b⟩
          exact .inl ⟨q, q + 1, h1, h2, h4, .inr (.inl ⟨h3, h7, rfl⟩), at_cr h2 h3 h7⟩
    · rw [h5]
      exact .inr ⟨h4, Ends.mono (lost' rfl rfl rfl) (by decide)⟩
  · have hpe : p = T.size := by omega
    refine .inr ⟨fun k h1 h2 => by omega, ?_⟩
    have e : Sre.forSearch B2 T 0 p T.size false = if (decide (p > T.size) || decide (T.size - p < 1)) = true then M.say (M.mk B2 T T.size p 0 false false 10 p p true #[] (-1) (-1) #[] none [] 0 none (Sre.Seen.add {} 14) none) false else M.attemptFrom (mk B2 T p 10 p p true [] 0 none false (Sre.Seen.add {} 14)) p true := rfl
    rw [e, if_pos (by rw [Bool.or_eq_true, decide_eq_true_eq, decide_eq_true_eq]; omega)]
    exact Ends.mono (lost' rfl rfl rfl) (by decide)
end
end Mine
end

-- SR3
noncomputable section
open PySem PySem.W PyProof.Rows PySem.Sre
set_option maxRecDepth 100000
namespace Mine
def rowAt (T : Array Nat) (q : Nat) : Prop := q = 0 ∨ T.getD (q - 1) 0 = 10
abbrev fS1 (s : Nat) (om : Bool) : Sre.Frame := { wait := .nextStart, pc := 5, pos := s, outermost := om }
section
variable {T : Array Nat} {st pc p hd' : Nat} {om ma : Bool} {fr : List Sre.Frame} {w : Nat} {sn : Sre.Seen} {n : Nat} {o : Option (Nat × Nat)}
theorem at5 : (mk B1 T st 5 p hd' om fr w none ma sn).step = if (p == 0 || T.getD (p - 1) 0 == 10) = true then mk B1 T st 7 p hd' om fr w none ma ((sn.add 6).add 44) else mk B1 T st 5 p hd' om fr w (some false) ma ((sn.add 6).add 44) := rfl
theorem at5_yes (hr : rowAt T p) (h : ∀ sn, Ends (mk B1 T st 7 p hd' om fr w none ma sn) n o) : Ends (mk B1 T st 5 p hd' om fr w none ma sn) (n + 1) o := by
  refine Ends.step rfl ?_
  have e4 : (p == 0 || T.getD (p - 1) 0 == 10) = true := by
    rcases hr with h | h
    · rw [h]; rfl
    · rw [h, Bool.or_eq_true]; exact .inr rfl
  rw [at5, if_pos e4]
  exact h _
theorem at5_no (hr : ¬ rowAt T p) (h : ∀ sn, Ends (mk B1 T st 5 p hd' om fr w (some false) ma sn) n o) : Ends (mk B1 T st 5 p hd' om fr w none ma sn) (n + 1) o := by
  refine Ends.step rfl ?_
  have e4 : (p == 0 || T.getD (p - 1) 0 == 10) = false := by
    rw [Bool.or_eq_false_iff, beq_eq_false_iff_ne, beq_eq_false_iff_ne]
    exact ⟨fun h => hr (.inl h), fun h => hr (.inr h)⟩
  rw [at5, if_neg (by rw [e4]; exact Bool.false_ne_true)]
  exact h _
theorem succ9 (h : ∀ sn, Ends (mk B1 T st 9 p p om fr w (some true) false sn) n o) : Ends (mk B1 T st 9 p hd' om fr w none false sn) (n + 1) o := by
  refine Ends.step rfl ?_
  have e : (mk B1 T st 9 p hd' om fr w none false sn).step = mk B1 T st 9 p p om fr w (some true) false (sn.add 1) := by
    have e1 : (mk B1 T st 9 p hd' om fr w none false sn).step = (mk B1 T st 9 p hd' om fr w none false sn).exec := rfl
    rw [e1]
    unfold M.exec
    have e2 : ops[(mk B1 T st 9 p hd' om fr w none false sn).word 0]? = some .SUCCESS := rfl
    rw [e2]
    dsimp only
    rw [if_neg (by simp)]
    rfl
  rw [e]
  exact h _
theorem backS1 {q : Nat} {om' : Bool} (h : ∀ sn, Ends (mk B1 T st 5 q hd' om' [] 0 (some true) ma sn) n o) : Ends (mk B1 T st pc p hd' om [fS1 q om'] 1 (some true) ma sn) (n + 1) o := Ends.step rfl (h _)
theorem again1 {q : Nat} {om' : Bool} (hq : q < T.size) (h : ∀ sn, Ends (mk B1 T (q + 1) 5 (q + 1) (q + 1) false [fS1 (q + 1) false] 1 none false sn) n o) : Ends (mk B1 T st pc p hd' om [fS1 q om'] 1 (some false) ma sn) (n + 1) o := by
  refine Ends.step rfl ?_
  have e : (mk B1 T st pc p hd' om [fS1 q om'] 1 (some false) ma sn).step = if q < T.size then mk B1 T (q + 1) 5 (q + 1) (q + 1) false [fS1 (q + 1) false] 1 none false sn else mk B1 T st 5 q hd' om' [] 0 (some false) ma sn := rfl
  rw [e, if_pos hq]
  exact h _
theorem over1 {q : Nat} {om' : Bool} (hq : ¬ q < T.size) : Ends (mk B1 T st pc p hd' om [fS1 q om'] 1 (some false) ma sn) 2 none := by
  refine Ends.step rfl ?_
  have e : (mk B1 T st pc p hd' om [fS1 q om'] 1 (some false) ma sn).step = if q < T.size then mk B1 T (q + 1) 5 (q + 1) (q + 1) false [fS1 (q + 1) false] 1 none false sn else mk B1 T st 5 q hd' om' [] 0 (some false) ma sn := rfl
  rw [e, if_neg hq]
  exact lost
theorem try1 : ∀ (d p : Nat) (om : Bool) (sn : Sre.Seen), p + d = T.size →
    (∃ q, p ≤ q ∧ q < T.size ∧ rowAt T q ∧ T.getD q 0 = 46 ∧ (∀ k, p ≤ k → k < q → ¬ (rowAt T k ∧ T.getD k 0 = 46)) ∧ Ends (mk B1 T p 5 p p om [fS1 p om] 1 none false sn) (8 * d + 8) (some (q, q + 1))) ∨
    ((∀ k, p ≤ k → k < T.size → ¬ (rowAt T k ∧ T.getD k 0 = 46)) ∧ Ends (mk B1 T p 5 p p om [fS1 p om] 1 none false sn) (8 * d + 8) none) := by
  intro d
  induction d with
  | zero =>
    intro p om sn h
    refine .inr ⟨fun k h1 h2 => by omega, ?_⟩
    by_cases hr : rowAt T p
    · exact Ends.mono (at5_yes hr fun _ => miss7 (fun h' => by omega) fun _ => over1 (by omega)) (by decide)
    · exact Ends.mono (at5_no hr fun _ => over1 (by omega)) (by decide)
  | succ d ih =>
    intro p om sn h
    by_cases hm : rowAt T p ∧ T.getD p 0 = 46
    · exact .inl ⟨p, Nat.le_refl _, by omega, hm.1, hm.2, fun k h1 h2 => by omega, Ends.mono (at5_yes hm.1 fun _ => hit7 (by omega) hm.2 fun _ => succ9 fun _ => backS1 fun _ => done) (by omega)⟩
    · have go : ∀ {n : Nat} {o : Option (Nat × Nat)}, (∀ sn, Ends (mk B1 T (p + 1) 5 (p + 1) (p + 1) false [fS1 (p + 1) false] 1 none false sn) n o) → Ends (mk B1 T p 5 p p om [fS1 p om] 1 none false sn) (n + 3) o := by
        intro n o hk
        by_cases hr : rowAt T p
        · exact at5_yes hr fun _ => miss7 (fun _ e => hm ⟨hr, e⟩) fun _ => again1 (by omega) hk
        · exact Ends.mono (at5_no hr fun _ => again1 (by omega) hk) (by omega)
      have key : ∀ k, p ≤ k → p + 1 ≤ k ∨ k = p := fun k hk => by omega
      by_cases hq : ∃ q, p + 1 ≤ q ∧ q < T.size ∧ rowAt T q ∧ T.getD q 0 = 46 ∧ (∀ k, p + 1 ≤ k → k < q → ¬ (rowAt T k ∧ T.getD k 0 = 46))
      · obtain ⟨q, h1, h2, h3, h4, h5⟩ := hq
        refine .inl ⟨q, by omega, h2, h3, h4, fun k k1 k2 => ?_, Ends.mono (go fun sn' => ?_) (show 8 * d + 8 + 3 ≤ 8 * (d + 1) + 8 by omega)⟩
        · rcases key k k1 with e | e
          · exact h5 k e k2
          · rw [e]; exact hm
        · rcases ih (p + 1) false sn' (by omega) with ⟨q', g1, g2, g3, g4, g5, g6⟩ | ⟨g5, _⟩
          · have : q = q' := by
              rcases Nat.lt_trichotomy q q' with l | l | l
              · exact absurd ⟨h3, h4⟩ (g5 q h1 l)
              · exact l
              · exact absurd ⟨g3, g4⟩ (h5 q' g1 l)
            rw [this]; exact g6
          · exact absurd ⟨h3, h4⟩ (g5 q h1 h2)
      · have hno : ∀ sn', (∀ k, p + 1 ≤ k → k < T.size → ¬ (rowAt T k ∧ T.getD k 0 = 46)) ∧ Ends (mk B1 T (p + 1) 5 (p + 1) (p + 1) false [fS1 (p + 1) false] 1 none false sn') (8 * d + 8) none := by
          intro sn'
          rcases ih (p + 1) false sn' (by omega) with ⟨q', g1, g2, g3, g4, g5, _⟩ | g
          · exact absurd ⟨q', g1, g2, g3, g4, g5⟩ hq
          · exact g
        refine .inr ⟨fun k k1 k2 => ?_, Ends.mono (go fun sn' => (hno sn').2) (show 8 * d + 8 + 3 ≤ 8 * (d + 1) + 8 by omega)⟩
        rcases key k k1 with e | e
        · exact (hno sn).1 k e k2
        · rw [e]; exact hm
theorem search1 (p : Nat) (hp : p ≤ T.size) :
    (∃ q, p ≤ q ∧ q < T.size ∧ rowAt T q ∧ T.getD q 0 = 46 ∧ (∀ k, p ≤ k → k < q → ¬ (rowAt T k ∧ T.getD k 0 = 46)) ∧ Ends (Sre.forSearch B1 T 0 p T.size false) (8 * T.size + 20) (some (q, q + 1))) ∨
    ((∀ k, p ≤ k → k < T.size → ¬ (rowAt T k ∧ T.getD k 0 = 46)) ∧ Ends (Sre.forSearch B1 T 0 p T.size false) (8 * T.size + 20) none) := by
  have e : Sre.forSearch B1 T 0 p T.size false = if (decide (p > T.size) || decide (T.size - p < 1)) = true then M.say (M.mk B1 T T.size p 0 false false 5 p p true #[] (-1) (-1) #[] none [] 0 none (Sre.Seen.add {} 14) none) false else mk B1 T p 5 p p true [fS1 p true] 1 none false (Sre.Seen.add {} 14) := rfl
  rw [e]
  by_cases hlt : p < T.size
  · rw [if_neg (by rw [Bool.or_eq_true, decide_eq_true_eq, decide_eq_true_eq]; omega)]
    have hfu : p + (T.size - p) = T.size := by omega
    rcases try1 (T := T) (T.size - p) p true (Sre.Seen.add {} 14) hfu with ⟨q, h1, h2, h3, h4, h5, h6⟩ | ⟨h5, h6⟩
    · exact .inl ⟨q, h1, h2, h3, h4, h5, h6.mono (by omega)⟩
    · exact .inr ⟨h5, h6.mono (by omega)⟩
  · rw [if_pos (by rw [Bool.or_eq_true, decide_eq_true_eq, decide_eq_true_eq]; omega)]
    exact .inr ⟨fun k h1 h2 => by omega, Ends.mono (lost' rfl rfl rfl) (by omega)⟩
end
end Mine
end

-- SB1
noncomputable section
open PySem PySem.W PyProof.Rows PySem.Sre PySem.Builtin.Re
set_option maxRecDepth 100000
namespace Mine
theorem runFor_some {m : M} (h : m.outcome.isSome = true) : ∀ n, M.runFor n m = m
  | 0 => rfl
  | n + 1 => by rw [M.runFor, if_pos h]
theorem runFor_add : ∀ (a b : Nat) (m : M), M.runFor (a + b) m = M.runFor b (M.runFor a m)
  | 0, b, m => by rw [Nat.zero_add]; rfl
  | a + 1, b, m => by
    rw [Nat.succ_add, M.runFor, M.runFor]
    by_cases h : m.outcome.isSome = true
    · rw [if_pos h, if_pos h, runFor_some h]
    · rw [if_neg h, if_neg h, runFor_add a b]
section
variable {Md : Model} {A : Around} {E : Value → Shared → Prop} {s : Shared}
theorem drive_wp {Q : M → Shared → Prop} : ∀ (t k : Nat) (m : M), k + 1 ≤ 4 * t → (M.runFor k m).outcome.isSome = true → Q (M.runFor k m) s → wpAny Md A (reDrive t m) Q E s := by
  intro t
  induction t with
  | zero => intro k m h _ _; omega
  | succ t ih =>
    intro k m hk hs hq
    unfold reDrive
    show wpAny Md A (if (M.runFor reTurnSteps m).outcome.isSome = true then pure (M.runFor reTurnSteps m) else do rule "sre.turn"; reDrive t (M.runFor reTurnSteps m)) Q E s
    show wpAny Md A (if (M.runFor 4 m).outcome.isSome = true then pure (M.runFor 4 m) else do rule "sre.turn"; reDrive t (M.runFor 4 m)) Q E s
    by_cases h4 : (M.runFor 4 m).outcome.isSome = true
    · rw [if_pos h4]
      have e : M.runFor k m = M.runFor 4 m := by
        by_cases hk4 : 4 ≤ k
        · have e1 : k = 4 + (k - 4) := by omega
          rw [e1, runFor_add, runFor_some h4]
        · have e1 : 4 = k + (4 - k) := by omega
          rw [e1, runFor_add, runFor_some hs]
      rw [e] at hq
      exact wpAny_pure hq
    · rw [if_neg h4]
      have hk4 : 4 ≤ k := by
        by_cases hk4 : 4 ≤ k
        · exact hk4
        · exfalso
          have e1 : 4 = k + (4 - k) := by omega
          rw [e1, runFor_add, runFor_some hs] at h4
          exact h4 hs
      have e1 : k = 4 + (k - 4) := by omega
      rw [e1, runFor_add] at hs hq
      exact wpAny_bind (wpAny_rule (ih (k - 4) _ (by omega) hs hq))
theorem forIn_rules {α : Type} (f : α → PUnit → Sem (ForInStep PUnit)) (hf : ∀ a s, ∀ Q : ForInStep PUnit → Shared → Prop, Q (.yield ⟨⟩) s → wpAny Md A (f a ⟨⟩) Q E s) : ∀ (l : List α) (s : Shared) (Q : PUnit → Shared → Prop), Q ⟨⟩ s → wpAny Md A (forIn l PUnit.unit f) Q E s := by
  intro l
  induction l with
  | nil => intro s Q h; exact wpAny_pure h
  | cons a l ih =>
    intro s Q h
    rw [List.forIn_cons]
    exact wpAny_bind (hf a s _ (ih s Q h))
theorem toEnd_wp {Q : Option M → Shared → Prop} {m : M} {n : Nat} {o : Option (Nat × Nat)} (h : Ends m n o) (hn : n ≤ 100000000)
    (hsome : ∀ a b m', o = some (a, b) → m'.start = a → m'.handed = b → Q (some m') s) (hnone : o = none → Q none s) : wpAny Md A (reRunToEnd m) Q E s := by
  obtain ⟨k, hk, ho⟩ := h
  have hs : (M.runFor k m).outcome.isSome = true := by
    cases o with
    | none => rw [show (M.runFor k m).outcome = _ from ho]; rfl
    | some ab => obtain ⟨a, b⟩ := ab; rw [ho.1]; rfl
  unfold reRunToEnd
  refine wpAny_bind (drive_wp (2 ^ 64) k m (Nat.le_trans (Nat.succ_le_succ (Nat.le_trans hk hn)) (by decide)) hs ?_)
  refine wpAny_bind (forIn_rules _ ?_ _ _ _ ?_)
  · intro i s' Q' hq
    split
    · exact wpAny_bind (wpAny_rule (wpAny_pure hq))
    · exact wpAny_bind (wpAny_pure (wpAny_pure hq))
  · cases o with
    | none =>
      rw [show (M.runFor k m).outcome = some .failed from ho]
      exact wpAny_pure (hnone rfl)
    | some ab =>
      obtain ⟨a, b⟩ := ab
      rw [ho.1]
      exact wpAny_pure (hsome a b _ rfl ho.2.1 ho.2.2)
end
end Mine
end

-- SB2
noncomputable section
open PySem PySem.W PyProof.Rows PySem.Sre PySem.Builtin.Re
set_option maxRecDepth 100000
namespace Mine
/-- what a pattern's search does to a text, from each place on -/
structure SubLaw (C T : Array Nat) (Rp : List Nat) (G : Nat → List Nat) (N : Nat) : Prop where
  le : N ≤ 100000000
  next : ∀ p, p ≤ T.size → (∃ q e, p ≤ q ∧ q < e ∧ e ≤ T.size ∧ G p = (T.toList.drop p).take (q - p) ++ Rp ++ G e ∧ Ends (Sre.forSearch C T 0 p T.size false) N (some (q, e))) ∨
    (G p = T.toList.drop p ∧ Ends (Sre.forSearch C T 0 p T.size false) N none)
abbrev patO (pv fv : Value) (ca : Addr) : Obj := { cls := .type "re.Pattern", data := .fields #[pv, fv, .int 0 0, .none, .none, .ref ca, .int 0 0] }
abbrev tgt (pa : Addr) (x : Str) (tx : Tok) (C : Array Nat) : ReTarget := { pattern := .ref pa, string := .str x tx, code := C, text := x.cps, kind := 0, groups := 0, pos := 0, lim := x.cps.size }
section
variable {prog : Program} {w : World} {A : Around} {E : Value → Shared → Prop} {s : Shared} {pa ca : Addr} {pv fv : Value} {oC : Obj} {vs : Array Value} {nn : Nat} {C : Array Nat} {x : Str} {tx : Tok}
theorem target_wp {Q : ReTarget → Shared → Prop} (hp : s.heap.get? pa = some (patO pv fv ca)) (hc : s.heap.get? ca = some oC) (hcd : oC.data = .seq vs nn) (hC : (vs.map reRawOf).map (·.toNat) = C)
    (h : Q (tgt pa x tx C) s) : wpAny (model prog w) A (reWholeTarget (.ref pa) (.str x tx)) Q E s := by
  unfold reWholeTarget
  refine wpAny_bind (wpAny_fieldsOf hp rfl ?_)
  refine wpAny_bind (wpAny_pure (a := (x.cps, 0)) ?_)
  show wpAny _ _ (reRawItems (.ref ca) >>= _) _ _ s
  unfold reRawItems
  refine wpAny_bind (wpAny_bind (wpAny_seqItems hc hcd ?_))
  refine wpAny_pure (wpAny_pure ?_)
  dsimp only [Option.getD]
  rw [hC]
  exact h
abbrev loopArgs (pa : Addr) (x : Str) (tx : Tok) (rp : Str) (tr : Tok) (n : Int) (p : Nat) (l : Addr) : Args :=
  ⟨[.ref pa, .str x tx, .str rp tr, rawInt 0, rawInt 0, rawInt n, rawInt p, rawInt p, .bool false, .ref l, .bool false], []⟩
theorem flat_len : ∀ parts : List Str, (parts.map (·.length)).sum = (parts.flatMap (·.cps.toList)).length
  | [] => rfl
  | p :: r => by
    have ih := flat_len r
    have e : p.cps.toList.length = p.length := Array.length_toList
    simp only [List.map_cons, List.sum_cons, List.flatMap_cons, List.length_append]
    omega
theorem join_flat (parts : List Str) : (Txt.join ⟨#[]⟩ parts).cps.toList = parts.flatMap (·.cps.toList) := by
  show (Builtin.Str.glued ⟨#[]⟩ parts).cps.toList = _
  rw [StrLaws.glued_eq_join]
  induction parts with
  | nil => rfl
  | cons p r ih =>
    cases r with
    | nil => show p.cps.toList = p.cps.toList ++ []; rw [List.append_nil]
    | cons q r =>
      show (p ++ ⟨#[]⟩ ++ Str.join ⟨#[]⟩ (q :: r)).cps.toList = p.cps.toList ++ _
      simp only [Str.cps_append, Array.toList_append]
      rw [ih]
      show p.cps.toList ++ [] ++ _ = _
      rw [List.append_nil]
      rfl
theorem strs_snoc {y : Str} {t : Tok} : ∀ {vs : List Value} {ys : List Str}, StrsAre vs ys → StrsAre (vs ++ [.str y t]) (ys ++ [y])
  | _, _, .nil => .cons y t .nil
  | _, _, .cons z u r => .cons z u (strs_snoc r)
abbrev lo (items : List Value) (k : Nat) : Obj := { cls := .type "list", data := .seq items.toArray k }
theorem push_wp {l : Addr} {items : List Value} {k : Nat} {v : Value} {Q : Unit → Shared → Prop} (hl : s.heap.get? l = some (lo items k)) (hz : items.length ≤ 1000000)
    (h : ∀ h' k', h'.get? l = some (lo (items ++ [v]) k') → Heap.SameBut l s.heap h' → Q () { s with heap := h' }) : wpAny (model prog w) A (updateSeq l (·.push v)) Q E s := by
  refine wpAny_updateSeq hl rfl ?_ (by rw [List.size_toArray, sizeLine_eq]; omega) (by rw [Array.size_push, List.size_toArray, sizeLine_eq]; omega)
  have e : Obj.mapSeq (·.push v) (lo items k) = lo (items ++ [v]) (if (items.toArray.push v).size == items.toArray.size then k else k + 1) := by
    unfold Obj.mapSeq
    simp only [List.push_toArray]
  exact h _ _ ((Heap.get?_update_self _ hl rfl).trans (congrArg some e)) (Heap.SameBut.update ..)
theorem subloop {R : Result → Shared → Prop} {rp : Str} {tr : Tok} {G : Nat → List Nat} {N : Nat} {W : List Nat} {s₀ : Shared} {l : Addr} (L : SubLaw C x.cps rp.cps.toList G N) (hrp : rp.length ≤ 2) (hx : x.length ≤ 200000) (hW : W.length ≤ 1000000)
    (hcl : ca ≠ l) (hpl : pa ≠ l) (hC : (vs.map reRawOf).map (·.toNat) = C) (hcd : oC.data = .seq vs nn)
    (hret : ∀ t' h' tk', Heap.ExtBut l s₀.heap h' → R (.ok (.ret (.str ⟨W.toArray⟩ t'))) { s₀ with heap := h', toks := tk' }) :
    ∀ (d p : Nat) (n : Int) (parts : List Str) (items : List Value) (k : Nat) (h : Heap) (tk : Nat), x.cps.size - p = d → p ≤ x.cps.size → parts.length ≤ 2 * p → StrsAre items parts → parts.flatMap (·.cps.toList) ++ G p = W →
    h.get? pa = some (patO pv fv ca) → h.get? ca = some oC → h.get? l = some (lo items k) → Heap.ExtBut l s₀.heap h →
    codeAny (model prog w) A (.builtin "re.Pattern.sub.loop" (loopArgs pa x tx rp tr n p l)) R { s₀ with heap := h, toks := tk } := by
  intro d
  induction d using Nat.strongRecOn with
  | ind d ih =>
    intro p n parts items k h tk hd hp hlen hS hw h1 h2 h3 hx0
    have hxs : x.cps.size = x.length := rfl
    have hil : items.length = parts.length := hS.length
    refine codeAny_builtin entry_pat_subloop ?_
    unfold Builtin.«re.Pattern.sub.loop»
    show wpAny _ _ (reWholeTarget (.ref pa) (.str x tx) >>= _) _ _ _
    refine wpAny_bind (target_wp h1 h2 hcd hC ?_)
    show wpAny _ _ (reNextFound (tgt pa x tx C) p false >>= _) _ _ _
    unfold reNextFound
    show wpAny _ _ (reRunToEnd (Sre.forSearch C x.cps 0 p x.cps.size false) >>= _) _ _ _
    rcases L.next p hp with ⟨q, e, hpq, hqe, hes, hG, hE⟩ | ⟨hG, hE⟩
    · refine wpAny_bind (toEnd_wp hE L.le ?_ (fun hn => by cases hn))
      intro a b m' hab hst hha
      cases hab
      show wpAny _ _ (if p < m'.start then _ else _) _ _ _
      rw [hst]
      have hrl : rp.cps.toList.length = rp.length := Array.length_toList
      have hsl : (⟨x.cps.extract p q⟩ : Str).cps.toList = (x.cps.toList.drop p).take (q - p) := by
        show (x.cps.extract p q).toList = _
        rw [Array.toList_extract, List.extract_eq_take_drop]
      have fin : ∀ (parts' : List Str) (items' : List Value) (k' : Nat) (h' : Heap) (tk' : Nat), parts'.length ≤ 2 * p + 1 → StrsAre items' parts' → parts'.flatMap (·.cps.toList) = parts.flatMap (·.cps.toList) ++ (x.cps.toList.drop p).take (q - p) →
          h'.get? l = some (lo items' k') → Heap.ExtBut l h h' →
          wpAny (model prog w) (A.under (.builtin "re.Pattern.sub.loop" (loopArgs pa x tx rp tr n p l))) (do updateSeq l (·.push (.str rp tr)); again (.builtin "re.Pattern.sub.loop" ⟨[.ref pa, .str x tx, .str rp tr, rawInt 0, rawInt 0, rawInt (n + 1), rawInt m'.handed, rawInt m'.handed, .bool (m'.handed == q), .ref l, .bool false], []⟩))
            (fun fin s' => match fin with | .done f => R (.ok f) s' | .again c' => c'.quiet = true ∧ codeAny (model prog w) A c' R s') (fun e s' => R (.error e) s') { s₀ with heap := h', toks := tk' } := by
        intro parts' items' k' h' tk' hl' hS' hf' hl3 hx'
        have hil' : items'.length = parts'.length := hS'.length
        refine wpAny_bind (push_wp hl3 (by omega) ?_)
        intro h'' k'' hl'' hs''
        have hb : (m'.handed == q) = false := by rw [hha, beq_eq_false_iff_ne]; omega
        rw [hb, hha]
        refine wpAny_pure ⟨plainId_quiet (by decide +kernel) _, ?_⟩
        refine ih (x.cps.size - e) (by omega) e (n + 1) (parts' ++ [rp]) (items' ++ [.str rp tr]) k'' h'' tk' rfl hes ?_ (strs_snoc hS') ?_ ?_ ?_ hl'' ?_
        · rw [List.length_append, List.length_singleton]; omega
        · rw [List.flatMap_append, hf', List.flatMap_singleton, ← hw, hG]
          simp only [List.append_assoc]
        · exact (hs''.2 pa hpl).trans (hx' _ _ hpl h1)
        · exact (hs''.2 ca hcl).trans (hx' _ _ hcl h2)
        · intro b o hb' e'
          exact (hs''.2 b hb').trans (hx' b o hb' (hx0 b o hb' e'))
      by_cases hq : p < q
      · rw [if_pos hq]
        show wpAny _ _ (mkStr ⟨x.cps.extract p q⟩ >>= _) _ _ _
        refine wpAny_bind (wpAny_mkStr ?_ ?_)
        · refine wpAny_bind (push_wp h3 (by omega) ?_)
          intro h' k' hl' hs'
          refine fin (parts ++ [⟨x.cps.extract p q⟩]) _ _ _ _ ?_ (strs_snoc hS) ?_ hl' (fun b o hb e' => (hs'.2 b hb).trans e')
          · rw [List.length_append, List.length_singleton]; omega
          · rw [List.flatMap_append, List.flatMap_singleton, hsl]
        · show (x.cps.extract p q).size ≤ _
          rw [Array.size_extract, sizeLine_eq]
          omega
      · rw [if_neg hq]
        have hqp : q - p = 0 := by omega
        refine fin parts items k h tk (by omega) hS ?_ h3 (fun _ _ _ e' => e')
        rw [hqp, List.take_zero, List.append_nil]
    · refine wpAny_bind (toEnd_wp hE L.le (fun a b m' hn => by cases hn) ?_)
      intro _
      show wpAny _ _ (if p < x.cps.size then _ else _) _ _ _
      have fin : ∀ (parts' : List Str) (items' : List Value) (k' : Nat) (h' : Heap) (tk' : Nat), StrsAre items' parts' → parts'.flatMap (·.cps.toList) = W → parts'.length ≤ 1000000 →
          h'.get? l = some (lo items' k') → Heap.ExtBut l h h' →
          wpAny (model prog w) (A.under (.builtin "re.Pattern.sub.loop" (loopArgs pa x tx rp tr n p l))) (do
              let joiner ← mkStr ⟨x.cps.extract 0 0⟩
              let text ← if ((← seqItems? (.ref l)).getD #[]).isEmpty then pure joiner else call (.builtin "str.join") [joiner, .ref l]
              ret text)
            (fun fin s' => match fin with | .done f => R (.ok f) s' | .again c' => c'.quiet = true ∧ codeAny (model prog w) A c' R s') (fun e s' => R (.error e) s') { s₀ with heap := h', toks := tk' } := by
        intro parts' items' k' h' tk' hS' hf' hn' hl3 hx'
        have hx2 : Heap.ExtBut l s₀.heap h' := fun b o hb e' => hx' b o hb (hx0 b o hb e')
        have e0 : (⟨x.cps.extract 0 0⟩ : Str) = ⟨#[]⟩ := by
          congr 1
          apply Array.eq_empty_of_size_eq_zero
          rw [Array.size_extract]; omega
        rw [e0]
        refine wpAny_bind (wpAny_mkStr ?_ (by decide))
        refine wpAny_bind (wpAny_seqItems hl3 rfl ?_)
        show wpAny _ _ (if items'.toArray.isEmpty = true then _ else _) _ _ _
        by_cases hem : items'.toArray.isEmpty = true
        · rw [if_pos hem]
          have hi0 : items' = [] := by simpa using hem
          subst hi0
          cases hS'
          have hW0 : W = [] := hf'.symm
          refine wpAny_bind (wpAny_pure (wpAny_pure ?_))
          have := hret tk' h' (tk' + 1) hx2
          rw [hW0] at this
          exact this
        · rw [if_neg hem]
          have hsum := flat_len parts'
          rw [hf'] at hsum
          refine wpAny_bind (join_list (items := items'.toArray) ⟨_, hl3, rfl, _, rfl⟩ (by simpa using hS') ?_ ?_)
          · show (parts'.map (·.length)).sum + parts'.length * 0 ≤ 16777216
            omega
          · intro t' k2
            refine wpAny_pure ?_
            have ej : Txt.join ⟨#[]⟩ parts' = ⟨W.toArray⟩ := by
              have := join_flat parts'
              rw [hf'] at this
              rw [← this]
            rw [ej]
            exact hret t' h' k2 hx2
      by_cases hq : p < x.cps.size
      · rw [if_pos hq]
        show wpAny _ _ (mkStr ⟨x.cps.extract p x.cps.size⟩ >>= _) _ _ _
        refine wpAny_bind (wpAny_mkStr ?_ ?_)
        · refine wpAny_bind (push_wp h3 (by omega) ?_)
          intro h' k' hl' hs'
          refine fin (parts ++ [⟨x.cps.extract p x.cps.size⟩]) _ _ _ _ (strs_snoc hS) ?_ ?_ hl' (fun b o hb e' => (hs'.2 b hb).trans e')
          · rw [List.flatMap_append, List.flatMap_singleton, ← hw, hG]
            show _ ++ (x.cps.extract p x.cps.size).toList = _
            rw [Array.toList_extract, List.extract_eq_take_drop, List.take_of_length_le (by rw [List.length_drop, Array.length_toList]; exact Nat.le_refl _)]
          · rw [List.length_append, List.length_singleton]; omega
        · show (x.cps.extract p x.cps.size).size ≤ _
          rw [Array.size_extract, sizeLine_eq]
          omega
      · rw [if_neg hq]
        refine fin parts items k h tk hS ?_ (by omega) h3 (fun _ _ _ e' => e')
        rw [hG, List.drop_of_length_le (by rw [Array.length_toList]; omega), List.append_nil] at hw
        exact hw
end
end Mine
end

-- SB3
noncomputable section
open PySem PySem.W PyProof.Rows PySem.Sre PySem.Builtin.Re
set_option maxRecDepth 100000
namespace Mine
theorem str_call : typeLookup (.type "str") "__call__" = pure none := by rw [typeLookup_type, builtinLookup_eq_fast]; kernel_rfl
theorem named_sub (a b : Value) : reNamed "re.Pattern.sub" "sub" ["repl", "string", "count"] 2 [a, b] [] = pure [some a, some b, none] := rfl
section
variable {prog : Program} {w : World} {A : Around} {E : Value → Shared → Prop} {s : Shared} {pa ca : Addr} {pv fv : Value} {oC : Obj} {vs : Array Value} {nn : Nat} {C : Array Nat} {x : Str} {tx : Tok}
theorem sub_call {Q : Value → Shared → Prop} {rp : Str} {tr : Tok} {G : Nat → List Nat} {N : Nat} (L : SubLaw C x.cps rp.cps.toList G N) (hrp : rp.length ≤ 2) (hr92 : rp.cps.contains 92 = false) (hx : x.length ≤ 200000) (hW : (G 0).length ≤ 1000000)
    (hC : (vs.map reRawOf).map (·.toNat) = C) (hp : s.heap.get? pa = some (patO pv fv ca)) (hc : s.heap.get? ca = some oC) (hcd : oC.data = .seq vs nn)
    (hret : ∀ t' h' tk', (∀ b o, s.heap.get? b = some o → h'.get? b = some o) → Q (.str ⟨(G 0).toArray⟩ t') { s with heap := h', toks := tk' }) :
    wpAny (model prog w) A (call (.builtin "re.Pattern.sub") [.ref pa, .str rp tr, .str x tx]) Q E s := by
  have hT : s.TypeIs (.ref pa) "re.Pattern" := ⟨_, hp, rfl⟩
  refine wpAny_call (codeAny_call_builtin slot_pat_sub.plain entry_pat_sub (slot_pat_sub.check _ _ _ _ _ _ _ _ hT (args_pat_sub _ _ _) ?_))
  unfold Builtin.«re.Pattern.sub» reSubstitute
  show wpAny _ _ (reNamed "re.Pattern.sub" "sub" ["repl", "string", "count"] 2 [.str rp tr, .str x tx] [] >>= _) _ _ s
  rw [named_sub]
  refine wpAny_bind (wpAny_pure ?_)
  show wpAny _ _ (pure _ >>= _) _ _ s
  refine wpAny_bind (wpAny_pure ?_)
  show wpAny _ _ (specialOf (.str rp tr) "__call__" >>= _) _ _ s
  refine wpAny_bind (wpAny_specialOf (typeIs_str _ _ _) str_call ?_)
  show wpAny _ _ (asStr? (.str rp tr) >>= _) _ _ s
  refine wpAny_bind (wpAny_pure (a := some rp) ?_)
  show wpAny _ _ (pure (!rp.cps.contains 92) >>= _) _ _ s
  rw [hr92]
  refine wpAny_bind (wpAny_pure ?_)
  show wpAny _ _ (pure _ >>= _) _ _ s
  refine wpAny_bind (wpAny_pure ?_)
  show wpAny _ _ (holding [.str rp tr] (reWholeTarget (.ref pa) (.str x tx)) >>= _) _ _ s
  refine wpAny_bind (wpAny_holding (target_wp hp hc hcd hC ?_))
  show wpAny _ _ (newList [] >>= _) _ _ s
  unfold newList
  refine wpAny_bind (wpAny_newObj_type ?_ (by size_fits))
  refine wpAny_pure ⟨plainId_quiet (by decide +kernel) _, ?_⟩
  have hpl : pa ≠ s.heap.objs.size := Nat.ne_of_lt (Heap.lt_size hp)
  have hcl : ca ≠ s.heap.objs.size := Nat.ne_of_lt (Heap.lt_size hc)
  refine subloop (s₀ := s) (W := G 0) L hrp hx hW hcl hpl hC hcd ?_ x.cps.size 0 0 [] [] 0 _ s.toks rfl (Nat.zero_le _) (Nat.le_refl _) .nil rfl (Heap.get?_push_of_some _ hp) (Heap.get?_push_of_some _ hc) (Heap.get?_push_size _ rfl) (fun b o _ e => Heap.get?_push_of_some _ e)
  intro t' h' tk' hx'
  exact hret t' h' tk' fun b o e => hx' b o (Nat.ne_of_lt (Heap.lt_size e)) e
end
end Mine
end

-- SB4
noncomputable section
open PySem PySem.W PyProof.Rows PySem.Sre PySem.Builtin.Re
set_option maxRecDepth 100000
namespace Mine
section
variable {T : Array Nat}
theorem drop_at2 {k : Nat} (h : k < T.size) : T.toList.drop k = T.getD k 0 :: T.toList.drop (k + 1) := by
  have h' : k < T.toList.length := by rw [Array.length_toList]; exact h
  rw [List.drop_eq_getElem_cons h', Array.getElem_toList]
  congr 1
  simp [Array.getD, h]
theorem eol_pre : ∀ (n p q : Nat), q - p = n → p ≤ q → q ≤ T.size → (∀ k, p ≤ k → k < q → ¬ isEol (T.getD k 0)) → eolL (T.toList.drop p) = (T.toList.drop p).take (q - p) ++ eolL (T.toList.drop q) := by
  intro n
  induction n with
  | zero =>
    intro p q hn hpq _ _
    have e : p = q := by omega
    subst e
    rw [Nat.sub_self, List.take_zero, List.nil_append]
  | succ n ih =>
    intro p q hn hpq hq hno
    have h0 := hno p (Nat.le_refl _) (by omega)
    have h1 := ih (p + 1) q (by omega) (by omega) hq (fun k k1 k2 => hno k (by omega) k2)
    rw [drop_at2 (by omega : p < T.size), eolL_cons (fun e => h0 (.inr e)) (fun e => h0 (.inl e)), h1]
    have e : q - p = (q - (p + 1)) + 1 := by omega
    rw [e, List.take_succ_cons, List.cons_append]
theorem law2 : SubLaw B2 T [13, 10] (fun p => eolL (T.toList.drop p)) 20 where
  le := by decide
  next p hp := by
    rcases search2 (T := T) p hp with ⟨q, e, h1, h2, h3, h4, h5⟩ | ⟨h3, h5⟩
    · refine .inl ⟨q, e, h1, ?_, ?_, ?_, h5⟩
      · rcases h4 with ⟨_, _, _, h⟩ | ⟨_, _, h⟩ | ⟨_, h⟩ <;> omega
      · rcases h4 with ⟨_, h', _, h⟩ | ⟨_, _, h⟩ | ⟨_, h⟩ <;> omega
      · show eolL (T.toList.drop p) = _
        rw [eol_pre (q - p) p q rfl h1 (by omega) h3, List.append_assoc]
        congr 1
        rw [drop_at2 h2]
        rcases h4 with ⟨e1, h', e2, h⟩ | ⟨e1, e2, h⟩ | ⟨e1, h⟩
        · rw [drop_at2 h', e1, e2, eolL_crlf, h]; rfl
        · rw [e1, eolL_cr, h]
          · rfl
          · intro hh
            by_cases hlt : q + 1 < T.size
            · rw [drop_at2 hlt] at hh
              exact e2 hlt (Option.some.inj hh)
            · rw [List.drop_of_length_le (by rw [Array.length_toList]; omega)] at hh
              cases hh
        · rw [e1, eolL_lf, h]; rfl
    · refine .inr ⟨?_, h5⟩
      show eolL (T.toList.drop p) = _
      rw [eol_pre (T.size - p) p T.size rfl hp (Nat.le_refl _) h3]
      rw [List.drop_of_length_le (i := T.size) (by rw [Array.length_toList]; exact Nat.le_refl _), List.take_of_length_le (by rw [List.length_drop, Array.length_toList]; exact Nat.le_refl _)]
      show _ ++ [] = _
      rw [List.append_nil]
def rowB (T : Array Nat) (q : Nat) : Bool := q == 0 || T.getD (q - 1) 0 == 10
theorem rowB_iff {q : Nat} : rowB T q = true ↔ rowAt T q := by
  unfold rowB rowAt
  rw [Bool.or_eq_true, beq_iff_eq, beq_iff_eq]
theorem rowB_succ (q : Nat) : rowB T (q + 1) = (T.getD q 0 == 10) := rfl
theorem dot_step {k : Nat} (h : k < T.size) (hn : ¬ (rowAt T k ∧ T.getD k 0 = 46)) : dotL (rowB T k) (T.toList.drop k) = T.getD k 0 :: dotL (rowB T (k + 1)) (T.toList.drop (k + 1)) := by
  rw [drop_at2 h, rowB_succ]
  by_cases h46 : T.getD k 0 = 46
  · have hb : rowB T k = false := by
      cases hb : rowB T k with
      | false => rfl
      | true => exact absurd ⟨rowB_iff.mp hb, h46⟩ hn
    rw [hb, dotL_false]
  · rw [dotL_other h46]
theorem dot_pre : ∀ (n p q : Nat), q - p = n → p ≤ q → q ≤ T.size → (∀ k, p ≤ k → k < q → ¬ (rowAt T k ∧ T.getD k 0 = 46)) → dotL (rowB T p) (T.toList.drop p) = (T.toList.drop p).take (q - p) ++ dotL (rowB T q) (T.toList.drop q) := by
  intro n
  induction n with
  | zero =>
    intro p q hn hpq _ _
    have e : p = q := by omega
    subst e
    rw [Nat.sub_self, List.take_zero, List.nil_append]
  | succ n ih =>
    intro p q hn hpq hq hno
    have h1 := ih (p + 1) q (by omega) (by omega) hq (fun k k1 k2 => hno k (by omega) k2)
    rw [dot_step (by omega : p < T.size) (hno p (Nat.le_refl _) (by omega)), h1]
    have e : q - p = (q - (p + 1)) + 1 := by omega
    rw [e, drop_at2 (by omega : p < T.size), List.take_succ_cons, List.cons_append]
theorem law1 (hT : T.size ≤ 10000000) : SubLaw B1 T [46, 46] (fun p => dotL (rowB T p) (T.toList.drop p)) (8 * T.size + 20) where
  le := by omega
  next p hp := by
    rcases search1 (T := T) p hp with ⟨q, h1, h2, hr, hd, h3, h5⟩ | ⟨h3, h5⟩
    · refine .inl ⟨q, q + 1, h1, by omega, by omega, ?_, h5⟩
      show dotL (rowB T p) (T.toList.drop p) = _
      rw [dot_pre (q - p) p q rfl h1 (by omega) h3, List.append_assoc]
      congr 1
      rw [drop_at2 h2, hd, rowB_iff.mpr hr, dotL_dot, rowB_succ, hd]
      rfl
    · refine .inr ⟨?_, h5⟩
      show dotL (rowB T p) (T.toList.drop p) = _
      rw [dot_pre (T.size - p) p T.size rfl hp (Nat.le_refl _) h3]
      rw [List.drop_of_length_le (i := T.size) (by rw [Array.length_toList]; exact Nat.le_refl _), List.take_of_length_le (by rw [List.length_drop, Array.length_toList]; exact Nat.le_refl _)]
      have e : dotL (rowB T T.size) [] = [] := by cases rowB T T.size <;> rfl
      rw [e, List.append_nil]
end
theorem eolL_len (l : List Nat) : (eolL l).length ≤ 2 * l.length := by
  refine eol_ind (P := fun l => (eolL l).length ≤ 2 * l.length) (Nat.le_refl _) ?_ ?_ ?_ ?_ l
  · intro r h; rw [eolL_crlf]; simp only [List.length_cons]; omega
  · intro r hr h; rw [eolL_cr hr]; simp only [List.length_cons]; omega
  · intro r h; rw [eolL_lf]; simp only [List.length_cons]; omega
  · intro c r h1 h2 h; rw [eolL_cons h1 h2]; simp only [List.length_cons]; omega
theorem dotL_len : ∀ (l : List Nat) (b : Bool), (dotL b l).length ≤ 2 * l.length := by
  intro l
  induction l with
  | nil => intro b; cases b <;> exact Nat.le_refl _
  | cons c r ih =>
    intro b
    by_cases h : c = 46
    · subst h
      cases b with
      | true => have := ih false; rw [dotL_dot]; simp only [List.length_cons]; omega
      | false => have := ih (46 == 10); rw [dotL_false]; simp only [List.length_cons]; omega
    · have := ih (c == 10); rw [dotL_other h]; simp only [List.length_cons]; omega
theorem isCode_map : ∀ {vs : List Value} {ns : List Nat}, IsCode vs ns → (vs.map reRawOf).map (·.toNat) = ns
  | _, _, .nil => rfl
  | _, _, .cons (n := n) h => by
    simp only [List.map_cons]
    rw [isCode_map h]
    rfl
end Mine
end

-- GP
noncomputable section
open PySem PySem.W PyProof.Rows
set_option maxRecDepth 100000
namespace Mine
theorem pat_ga : typeLookup (.type "re.Pattern") "__getattribute__" = pure (some (.builtin "object.__getattribute__")) := by rw [typeLookup_type, builtinLookup_eq_fast]; kernel_rfl
theorem pat_gattr : typeLookup (.type "re.Pattern") "__getattr__" = pure none := by rw [typeLookup_type, builtinLookup_eq_fast]; kernel_rfl
theorem type_sub : typeOf (.builtin "re.Pattern.sub") = pure (.type "method_descriptor") := by show builtinType _ = _; rw [builtinType_eq_fast]; kernel_rfl
theorem getMethod_pat {prog : Program} {w : World} {A : Around} {E : Value → Shared → Prop} {s : Shared} {pa ca : Addr} {pv fv : Value} {pl : Sem Bool} {Q : Value × List Value → Shared → Prop} (hp : s.heap.get? pa = some (patO pv fv ca))
    (h : Q (.builtin "re.Pattern.sub", [.ref pa]) s) : wpAny (model prog w) A (getMethod (.ref pa) "sub" pl) Q E s := by
  have hT : s.TypeIs (.ref pa) "re.Pattern" := ⟨_, hp, rfl⟩
  unfold getMethod
  refine wpAny_bind (wpAny_specialOf hT pat_ga ?_)
  have hc : (Manifest.canonical "object.__getattribute__" != "object.__getattribute__") = false := by decide +kernel
  show wpAny _ _ (if (Manifest.canonical "object.__getattribute__" != "object.__getattribute__") = true then _ else _) _ _ s
  rw [hc, if_neg Bool.false_ne_true]
  refine wpAny_bind (wpAny_specialOf hT pat_gattr ?_)
  show wpAny _ _ (specialOf (.ref pa) "sub" >>= _) _ _ s
  refine wpAny_bind (wpAny_specialOf hT slot_pat_sub.lookup ?_)
  show wpAny _ _ (typeOf (.builtin "re.Pattern.sub") >>= _) _ _ s
  rw [type_sub]
  refine wpAny_bind (wpAny_pure ?_)
  show wpAny _ _ (loadPart pa (some headPart) >>= _) _ _ s
  refine wpAny_bind (wpAny_loadPart hp ?_)
  exact wpAny_bind (wpAny_rule (wpAny_pure h))
end Mine
end

-- QD1
noncomputable section
open PySem PySem.W PyProof.Rows
set_option maxRecDepth 100000
set_option maxHeartbeats 8000000
namespace Mine
section
variable {prog : Program} {w : World} {A : Around} {h₀ : Heap} {L : Addr} {m : Str → Option Value} {news : List (Addr × Obj)} {s : Shared} {x : Str} {t tr : Tok}
theorem pat1 (P : Params) : ∃ pv fv, (hd.heap_39 P).lookup 85 = some (patO pv fv 84) := ⟨_, _, rfl⟩
theorem pat2 (P : Params) : ∃ pv fv, (hd.heap_39 P).lookup 90 = some (patO pv fv 89) := ⟨_, _, rfl⟩
theorem cod1 (P : Params) : ∃ o nn, (hd.heap_39 P).lookup 84 = some o ∧ o.data = .seq (seqOf P 84).toArray nn := ⟨_, _, rfl, rfl⟩
theorem cod2 (P : Params) : ∃ o nn, (hd.heap_39 P).lookup 89 = some o ∧ o.data = .seq (seqOf P 89).toArray nn := ⟨_, _, rfl, rfl⟩
theorem arr_map {vs : List Value} {ns : List Nat} (h : IsCode vs ns) : (vs.toArray.map PySem.Builtin.Re.reRawOf).map (·.toNat) = ns.toArray := by
  have := isCode_map h
  rw [← this]
  simp
theorem gm1 {Q : Value × List Value → Shared → Prop} {E : Value → Shared → Prop} {pl : Sem Bool} (F : Fr h₀ L s.heap m) (X : (hd.heap_39 w.params).In h₀) (h : Q (.builtin "re.Pattern.sub", [.ref 85]) s) : wpAny (model prog w) A (getMethod (.ref 85) "sub" pl) Q E s := by
  obtain ⟨pv, fv, e⟩ := pat1 w.params
  exact getMethod_pat ((X.keeps F.keep) 85 _ e) h
theorem gm2 {Q : Value × List Value → Shared → Prop} {E : Value → Shared → Prop} {pl : Sem Bool} (F : Fr h₀ L s.heap m) (X : (hd.heap_39 w.params).In h₀) (h : Q (.builtin "re.Pattern.sub", [.ref 90]) s) : wpAny (model prog w) A (getMethod (.ref 90) "sub" pl) Q E s := by
  obtain ⟨pv, fv, e⟩ := pat2 w.params
  exact getMethod_pat ((X.keeps F.keep) 90 _ e) h
theorem sub2 {Q E : Value → Shared → Prop} (F : Fr h₀ L s.heap m) (X : (hd.heap_39 w.params).In h₀) (N : News h₀ L s.heap news) (hx : x.length ≤ 200000)
    (ret : ∀ t' h' tk', Fr h₀ L h' m → News h₀ L h' news → (fixS x).length ≤ 2 * x.length → Q (.str (fixS x) t') { s with heap := h', toks := tk' }) :
    wpAny (model prog w) A (call (.builtin "re.Pattern.sub") [.ref 90, .str (Str.ofString "\x0d\n") tr, .str x t]) Q E s := by
  obtain ⟨pv, fv, e⟩ := pat2 w.params
  obtain ⟨o, nn, e1, e2⟩ := cod2 w.params
  have hl := eolL_len x.cps.toList
  have hxx : x.cps.toList.length = x.length := by rw [Array.length_toList]; rfl
  have hL : (fixS x).length ≤ 2 * x.length := by
    show (eolL x.cps.toList).toArray.size ≤ _
    rw [List.size_toArray]; omega
  refine sub_call (rp := Str.ofString "\x0d\n") (G := fun p => eolL (x.cps.toList.drop p)) law2 (by decide +kernel) (by decide +kernel) hx ?_ (arr_map (C2D.2 w.params)) ((X.keeps F.keep) 90 _ e) ((X.keeps F.keep) 89 _ e1) e2 ?_
  · show (eolL (x.cps.toList.drop 0)).length ≤ _
    rw [List.drop_zero]; omega
  · intro t' h' tk' hk
    exact ret t' h' tk' (F.keeps hk) (fun p hp => ⟨hk _ _ (N p hp).1, (N p hp).2⟩) hL
theorem sub1 {Q E : Value → Shared → Prop} (F : Fr h₀ L s.heap m) (X : (hd.heap_39 w.params).In h₀) (N : News h₀ L s.heap news) (hx : x.length ≤ 200000)
    (ret : ∀ t' h' tk', Fr h₀ L h' m → News h₀ L h' news → Q (.str ⟨(dotL true x.cps.toList).toArray⟩ t') { s with heap := h', toks := tk' }) :
    wpAny (model prog w) A (call (.builtin "re.Pattern.sub") [.ref 85, .str (Str.ofString "..") tr, .str x t]) Q E s := by
  obtain ⟨pv, fv, e⟩ := pat1 w.params
  obtain ⟨o, nn, e1, e2⟩ := cod1 w.params
  have hl := dotL_len x.cps.toList true
  have hxx : x.cps.toList.length = x.length := by rw [Array.length_toList]; rfl
  have hsz : x.cps.size ≤ 10000000 := Nat.le_trans hx (by decide)
  refine sub_call (rp := Str.ofString "..") (G := fun p => dotL (rowB x.cps p) (x.cps.toList.drop p)) (law1 hsz) (by decide +kernel) (by decide +kernel) hx ?_ (arr_map (C1D.2 w.params)) ((X.keeps F.keep) 85 _ e) ((X.keeps F.keep) 84 _ e1) e2 ?_
  · show (dotL true (x.cps.toList.drop 0)).length ≤ _
    rw [List.drop_zero]; omega
  · intro t' h' tk' hk
    exact ret t' h' tk' (F.keeps hk) (fun p hp => ⟨hk _ _ (N p hp).1, (N p hp).2⟩)
end
end Mine
end

-- QD
noncomputable section
open PySem PySem.W PyProof.Rows
set_option maxRecDepth 100000
set_option maxHeartbeats 8000000
namespace Mine
local macro_rules | `(tactic| walk_at "getMethod ref") => `(tactic| (k_here; first
  | (k_dflt (refine' gm1 ?k1 ?k2 ?_; (case k1 => k_asm); (case k2 => k_asm); k_whole))
  | (k_dflt (refine' gm2 ?k1 ?k2 ?_; (case k1 => k_asm); (case k2 => k_asm); k_whole))))
local macro_rules | `(tactic| walk_at "call builtin:re.Pattern.sub") => `(tactic| (k_here; first
  | (k_dflt (refine' sub2 ?k1 ?k2 ?k3 ?k4 ?_; (case k1 => k_asm); (case k2 => k_asm); (case k3 => k_asm); (case k4 => omega); k_whole); intro t' h' tk' F' N' hl'; (try dsimp only); (try k_fold))
  | (k_dflt (refine' sub1 ?k1 ?k2 ?k3 ?k4 ?_; (case k1 => k_asm); (case k2 => k_asm); (case k3 => k_asm); (case k4 => omega); k_whole); intro t' h' tk' F' N'; (try dsimp only); (try k_fold))))
section
variable {w : World} {p : Program} {loose : List Str} {mean : ExcName → Option Value} {mg mb : Str → Option Value}
    {cn : Str} {cs : Scope} {a : Addr} {ccd : Value} {cl : List (Str × Addr)} {outer : List Env} {A₀ : Around} {base h₀ : Heap} {L : Addr} {m : Str → Option Value} {news : List (Addr × Obj)} {s : Shared} {Q E : Value → Shared → Prop}
    {x : Str} {t : Tok}
theorem fix_ct (B : Below A₀ base outer h₀) (F : Fr h₀ L s.heap m) (X : (hd.heap_39 w.params).In h₀) (N : News h₀ L s.heap news) (T : Top p loose mean mg mb h₀) (hk : cs.kind = .function)
    (hx : x.length ≤ 100000)
    (ret : ∀ t' h' tk', Fr h₀ L h' m → News h₀ L h' news → Q (.str (fixS x) t') { s with heap := h', toks := tk' }) :
    wpAny (model PySem.Challenge.rw_ny0037_01.row.prog w) (ktrTop 302 7 (some []) cn cs L a ccd cl outer) (call (.ref 104) [.str x t]) Q E s := by
  w_top off; k_with_none
  revert X; k_fill; intro X
  refine wpAny_call ?_
  k_dflt cell_enter
  k_steps
  rename News _ _ _ _ => kN
  rename Fr _ _ _ _ => kF
  exact ret _ _ _ kF kN
theorem quotedata_ct (B : Below A₀ base outer h₀) (F : Fr h₀ L s.heap m) (X : (hd.heap_39 w.params).In h₀) (N : News h₀ L s.heap news) (T : Top p loose mean mg mb h₀) (hk : cs.kind = .function)
    (hx : x.length ≤ 100000)
    (ret : ∀ t' h' tk', Fr h₀ L h' m → News h₀ L h' news → Q (.str (quoteS x) t') { s with heap := h', toks := tk' }) :
    wpAny (model PySem.Challenge.rw_ny0037_01.row.prog w) (ktrTop 302 7 (some []) cn cs L a ccd cl outer) (call (.ref 97) [.str x t]) Q E s := by
  w_top off; k_with_none
  revert X; k_fill; intro X
  refine wpAny_call ?_
  k_dflt cell_enter
  k_steps
  rename News _ _ _ _ => kN
  rename Fr _ _ _ _ => kF
  exact ret _ _ _ kF kN
end
end Mine
end

-- LN
noncomputable section
open PySem PySem.W PyProof.Rows
set_option maxRecDepth 100000
namespace Mine
abbrev SIGNS : Str := Str.ofString ".\n\x0d\\\" \x0c."
theorem item1 (k : Int) : (Txt.item SIGNS (k.fmod 8)).length = 1 := by
  have h1 : 0 ≤ k.fmod 8 := Int.fmod_nonneg_of_pos _ (by decide)
  have h2 : k.fmod 8 < 8 := Int.fmod_lt_of_pos _ (by decide)
  generalize k.fmod 8 = j at h1 h2
  obtain ⟨n, rfl⟩ := Int.eq_ofNat_of_zero_le h1
  have : n < 8 := by omega
  have H : ∀ n : Fin 8, (Txt.item SIGNS ((n.val : Nat) : Int)).length = 1 := by decide +kernel
  exact H ⟨n, this⟩
theorem text_join {prog : Program} {w : World} {A : Around} {E : Value → Shared → Prop} {s : Shared} {D : Addr} {ys : List Value} {l : List Int} {t : Tok} {Q : Value → Shared → Prop}
    (hl : s.heap.IsList D ys.toArray) (hc : CarriedAll ys (l.map fun k => PyData.str (Txt.item SIGNS (k.fmod 8)))) (hn : l.length ≤ 8)
    (h : ∀ x t' k, x.length ≤ 8 → Q (.str x t') { s with toks := k }) : wpAny (model prog w) A (call (.builtin "str.join") [.str (Str.ofString "") t, .ref D]) Q E s :=
  KT.join_1 hl hc (fun _ _ => item1 _) (by omega) fun t' k e => h _ t' k (by omega)
end Mine
end

-- TN1
noncomputable section
open PySem PySem.W PyProof.Rows
set_option maxRecDepth 100000
set_option maxHeartbeats 8000000
namespace Mine
abbrev shutS (x : Str) : Str := (Str.ofString "\x0d\"" ++ Txt.replace (Txt.replace x (Str.ofString "\\") (Str.ofString "\\\\")) (Str.ofString "\"") (Str.ofString "\\\"")) ++ Str.ofString "\"n"
local macro_rules | `(tactic| walk_at "call ref") => `(tactic| (k_here; (with_reducible show wpAny _ _ (call (Value.ref 97) [Value.str _ _]) _ _ _); k_dflt (refine' quotedata_ct ?k1 ?k2 ?k3 ?k4 ?k5 ?k6 ?k7 ?_; (case k1 => k_asm); (case k2 => k_asm); (case k3 => k_asm); (case k4 => k_asm); (case k5 => k_asm); (case k6 => exact rfl); (case k7 => (simp only [Str.length_append] at *; omega)); k_whole); intro t' h' tk' F' N'; (try dsimp only); (try k_fold)))
local macro_rules | `(tactic| walk_at "call ref") => `(tactic| (k_here; (with_reducible show wpAny _ _ (call (Value.ref 104) [Value.str _ _]) _ _ _); k_dflt (refine' fix_ct ?k1 ?k2 ?k3 ?k4 ?k5 ?k6 ?k7 ?_; (case k1 => k_asm); (case k2 => k_asm); (case k3 => k_asm); (case k4 => k_asm); (case k5 => k_asm); (case k6 => exact rfl); (case k7 => (simp only [Str.length_append] at *; omega)); k_whole); intro t' h' tk' F' N'; (try dsimp only); (try k_fold)))
local macro_rules | `(tactic| walk_at "call builtin:str.replace") => `(tactic| (k_here; k_dflt (refine' replaceT ?k1 ?k2 ?k3 ?k4 ?k5 ?k6 ?k7 ?_; (case k1 => ((try dsimp only); omega)); (case k2 => (refine neN ?_; (try dsimp only); omega)); (case k3 => (refine neN ?_; (try dsimp only); omega)); (case k4 => (refine neN ?_; (try dsimp only); omega)); (case k5 => decide +kernel); (case k6 => omega); (case k7 => decide +kernel); k_whole); intro t' k' hk' hl'; (try dsimp only)))
section
variable {w : World} {p : Program} {loose : List Str} {mean : ExcName → Option Value} {mg mb : Str → Option Value}
    {fa : Addr} {cd : Value} {cl : List (Str × Addr)} {outer : List Env} {A₀ : Around} {base h₀ : Heap} {L : Addr} {m0 : Str → Option Value} {s : Shared}
    {x : Str} {t tm : Tok} {mk : Int} {rest : List (Addr × Obj)}
theorem turn1 {Q : Flow → Shared → Prop} {E : Value → Shared → Prop} (B : Below A₀ base outer h₀) (F : Fr h₀ L s.heap (fun y => if y = Str.ofString "mark" then some (.int mk tm) else if y = Str.ofString "sent" then some (.str x t) else m0 y)) (X : (hd.heap_39 w.params).In h₀)
    (N : News h₀ L s.heap rest) (T : Top p loose mean mg mb h₀) (hx : x.length ≤ 10000)
    (ret : ∀ m' t' h' tk', Fr h₀ L h' m' → m' (Str.ofString "sent") = some (.str (if mk = 0 then quoteS (shutS x) else fixS (shutS x)) t') → (∀ y, ([Str.ofString "sent", Str.ofString "shut", Str.ofString "mark"] : List Str).contains y = false → m' y = m0 y) →
      News h₀ L h' rest → Q .next { s with heap := h', toks := tk' }) :
    wpAny (model PySem.Challenge.rw_ny0037_01.row.prog w) (ktrTop 302 7 (some []) (Str.ofString "law") lawD.1.2 L fa cd cl outer) (execs lawF1.1 (envX (Str.ofString "law") lawD.1.2 L fa cd cl)) Q E s := by
  w_top off; k_with_none
  revert X; k_fill; intro X
  have l1 : (Str.ofString "\x0d\"").length = 2 := by decide +kernel
  have l2 : (Str.ofString "\"n").length = 2 := by decide +kernel
  dsimp only [lawD, lawF1]
  k_steps
  · rename News _ _ _ _ => kN
    rename Fr _ _ _ _ => kF
    rename mk = 0 => hz
    refine ret _ _ _ _ kF (by rw [if_pos hz]; rfl) ?_ kN
    intro y hy
    simp only [List.contains_cons, List.contains_nil, Bool.or_false, Bool.or_eq_false_iff, beq_eq_false_iff_ne, ne_eq] at hy
    obtain ⟨h1, h2, h3⟩ := hy
    simp only [if_neg h1, if_neg h2, if_neg h3]
  · rename News _ _ _ _ => kN
    rename Fr _ _ _ _ => kF
    rename ¬ mk = 0 => hz
    refine ret _ _ _ _ kF (by rw [if_neg hz]; rfl) ?_ kN
    intro y hy
    simp only [List.contains_cons, List.contains_nil, Bool.or_false, Bool.or_eq_false_iff, beq_eq_false_iff_ne, ne_eq] at hy
    obtain ⟨h1, h2, h3⟩ := hy
    simp only [if_neg h1, if_neg h2, if_neg h3]
end
abbrev names1 : List Str := [Str.ofString "sent", Str.ofString "shut", Str.ofString "mark"]
/-- what the first loop sends, envelope by envelope -/
noncomputable def wrapS (x0 : Str) : List Int → Str
  | [] => x0
  | mk :: r => wrapS (if mk = 0 then quoteS (shutS x0) else fixS (shutS x0)) r
def J1 (h₀ : Heap) (L : Addr) (s : Shared) (D : Addr) (x0 : Str) (ms : List Int) (m0 : Str → Option Value) (rest0 : List (Addr × Obj)) (I : Addr) (k : Nat) (s' : Shared) : Prop :=
  ∃ (i : Nat) (m' : Str → Option Value) (t' : Tok) (oI : Obj) (h' : Heap) (tk' : Nat),
    k = ms.length + 1 - i ∧ i ≤ ms.length ∧ s' = { s with heap := h', toks := tk' } ∧ Fr h₀ L h' m' ∧ m' (Str.ofString "sent") = some (.str (wrapS x0 (ms.take i)) t') ∧ (∀ y, names1.contains y = false → m' y = m0 y) ∧
    News h₀ L h' ((I, oI) :: rest0) ∧ IterO oI D i ∧ (∀ p ∈ rest0, p.1 ≠ I)
theorem wrapS_snoc (x0 : Str) (r : List Int) (mk : Int) : wrapS x0 (r ++ [mk]) = (if mk = 0 then quoteS (shutS (wrapS x0 r)) else fixS (shutS (wrapS x0 r))) := by
  induction r generalizing x0 with
  | nil => rfl
  | cons a r ih => exact ih _
section
variable {w : World} {p : Program} {loose : List Str} {mean : ExcName → Option Value} {mg mb : Str → Option Value}
    {fa : Addr} {cd : Value} {cl : List (Str × Addr)} {outer : List Env} {A₀ : Around} {base h₀ : Heap} {L : Addr} {m0 : Str → Option Value} {s : Shared}
    {t : Tok} {rest0 : List (Addr × Obj)} {D cm : Addr} {vs : List Value} {ms : List Int} {kk : Nat} {ocm : Obj} {x0 : Str}
theorem loop1 {Q : Flow → Shared → Prop} {E : Value → Shared → Prop} {px py pos : Pos} (B : Below A₀ base outer h₀) (F : Fr h₀ L s.heap m0) (X : (hd.heap_39 w.params).In h₀)
    (N : News h₀ L s.heap rest0) (T : Top p loose mean mg mb h₀)
    (hcl : cl.lookup (Str.ofString "marks") = some cm) (hcm : (cm, ocm) ∈ rest0) (hcd : ocm.data = .cell (some (.ref D))) (hD : (D, listOf vs.toArray kk) ∈ rest0) (hI : IntsAre vs ms)
    (hm : m0 (Str.ofString "sent") = some (.str x0 t))
    (hb : ∀ i, i < ms.length → (wrapS x0 (ms.take i)).length ≤ 10000)
    (hE : PassesOwn (model PySem.Challenge.rw_ny0037_01.row.prog w) (ktrTop 302 7 (some []) (Str.ofString "law") lawD.1.2 L fa cd cl outer) (envX (Str.ofString "law") lawD.1.2 L fa cd cl) E)
    (ret : ∀ m' t' h' tk', Fr h₀ L h' m' → m' (Str.ofString "sent") = some (.str (wrapS x0 ms) t') → (∀ y, names1.contains y = false → m' y = m0 y) → News h₀ L h' rest0 → Q .next { s with heap := h', toks := tk' }) :
    wpAny (model PySem.Challenge.rw_ny0037_01.row.prog w) (ktrTop 302 7 (some []) (Str.ofString "law") lawD.1.2 L fa cd cl outer) (exec (.For (.Name (Str.ofString "mark") px) (.Name (Str.ofString "marks") py) lawF1.1 [] pos) (envX (Str.ofString "law") lawD.1.2 L fa cd cl)) Q E s := by
  have hlist : ∀ {h : Heap}, News h₀ L h rest0 → h.IsList D vs.toArray := fun N' => News.isList N' hD
  have hlen : vs.length = ms.length := hI.length
  refine for_inv (J1 h₀ L s D x0 ms m0 rest0) ?_ ?_ (by intro _; rfl) hE
  · refine nameX_C N hcl hcm hcd ?_
    refine wpAny_pyIter_list (hlist N) ?_
    refine ⟨_, ms.length + 1, rfl, 0, m0, t, { cls := .type "list_iterator", data := .fields #[.ref D, .int 0 0] }, _, s.toks, by omega, Nat.zero_le _, rfl, F.push _, by simpa [wrapS] using hm, fun _ _ => rfl, News.push F N _, ⟨rfl, rfl⟩, ?_⟩
    intro q hq
    exact Nat.ne_of_lt (Heap.lt_size (N q hq).1)
  · rintro I k s' ⟨i, m', t', oI, h', tk', hk, hi, rfl, F', hm', hy', N', hit, hoff'⟩
    have N1 : News h₀ L h' rest0 := fun q hq => N' q (.tail _ hq)
    have hIter : h'.IsListIter I D i := ⟨oI, (N' _ (.head _)).1, hit.1, hit.2⟩
    have hIL := (N' _ (.head _)).2.1
    have hI0 := (N' _ (.head _)).2.2
    by_cases hlt : i < ms.length
    · obtain ⟨tv, hv⟩ := hI.get i ms[i] (by simp [hlt])
      refine wpAny_pyNext_list_item hIter (hlist N1) (x := .int ms[i] tv) (by simpa using hv) ?_
      intro h1 hit1 hs1
      have F1 := F'.change hs1 hIL hI0
      obtain ⟨oI1, ho1, hc1, hd1⟩ := hit1
      have N2 : News h₀ L h1 ((I, oI1) :: rest0) := by
        intro q hq
        rcases List.mem_cons.mp hq with e | e
        · rw [e]; exact ⟨ho1, hIL, hI0⟩
        · exact ⟨(hs1.2 _ (hoff' q e)).trans (N' _ (.tail _ e)).1, (N' _ (.tail _ e)).2⟩
      show wpAny _ _ (storeName _ _ _) _ _ _
      refine storeX_L F1 N2 ?_ rfl rfl
      intro h2 F2 N3
      refine turn1 (m0 := m') (x := wrapS x0 (ms.take i)) (t := t') (mk := ms[i]) (tm := tv) (rest := (I, oI1) :: rest0) B (fr_eq F2 ?_) X N3 T (hb i hlt) ?_
      · intro y
        by_cases h1 : y = Str.ofString "mark"
        · simp only [if_pos h1]
        · simp only [if_neg h1]
          by_cases h2 : y = Str.ofString "sent"
          · simp only [if_pos h2]; rw [h2]; exact hm'
          · simp only [if_neg h2]
      · intro m2 t2 h3 tk3 F3 hs3 hy3 N4
        have et : ms.take (i + 1) = ms.take i ++ [ms[i]] := by rw [List.take_add_one, List.getElem?_eq_getElem hlt]; rfl
        refine ⟨ms.length + 1 - (i + 1), by omega, i + 1, m2, t2, oI1, h3, tk3, rfl, hlt, rfl, F3, ?_, fun y hy => (hy3 y hy).trans (hy' y hy), N4, ⟨hc1, hd1⟩, hoff'⟩
        rw [et, wrapS_snoc]
        exact hs3
    · have hin : i = ms.length := by omega
      subst hin
      refine wpAny_pyNext_list_end rfl hIter (hlist N1) (Array.getElem?_eq_none (Nat.le_of_eq (List.size_toArray.trans hlen))) ?_
      intro h1 he1
      rw [List.take_length] at hm'
      refine ret m' t' h1 tk' ⟨F'.ns.extBut he1 (Ne.symm hIL), fun b ob e => he1 b ob (fun q => ?_) (F'.keep b ob e), F'.above⟩ hm' hy' ?_
      · rw [q, hI0] at e; cases e
      · intro q hq
        exact ⟨he1 _ _ (hoff' q hq) (N' _ (.tail _ hq)).1, (N' _ (.tail _ hq)).2⟩
end
end Mine
end

-- P5
noncomputable section
open PySem PySem.W PyProof.Rows
set_option maxRecDepth 100000
namespace Mine
theorem app_list' (a b : Str) : (a ++ b).cps.toList = a.cps.toList ++ b.cps.toList := by
  show (a.cps ++ b.cps).toList = _
  exact Array.toList_append
theorem shut_list (x : Str) : (shutS x).cps.toList = 13 :: 34 :: shutL x.cps.toList := by
  have e1 : (Str.ofString "\x0d\"").cps.toList = [13, 34] := by decide +kernel
  have e2 : (Str.ofString "\"n").cps.toList = [34, 110] := by decide +kernel
  unfold shutS
  rw [app_list', app_list', replace_esc, e1, e2]
  rfl
theorem fix_shut {x : Str} (h : Norm x.cps.toList) : (fixS (shutS x)).cps.toList = envL x.cps.toList := by
  show eolL (shutS x).cps.toList = _
  rw [shut_list, eol_env h]
theorem quote_shut {x : Str} (h : Norm x.cps.toList) : (quoteS (shutS x)).cps.toList = envL (dotL false x.cps.toList) := by
  show dotL true (eolL (shutS x).cps.toList) = _
  rw [shut_list, eol_env h, dot_env]
theorem wrap_list (ms : List Int) : ∀ (x : Str), Norm x.cps.toList → (wrapS x ms).cps.toList = wrapL x.cps.toList ms := by
  induction ms with
  | nil => intro x _; rfl
  | cons mk r ih =>
    intro x h
    show (wrapS (if mk = 0 then quoteS (shutS x) else fixS (shutS x)) r).cps.toList = wrapL (if mk = 0 then envL (dotL false x.cps.toList) else envL x.cps.toList) r
    by_cases hz : mk = 0
    · rw [if_pos hz, if_pos hz, ih _ (by rw [quote_shut h]; exact env_norm (dotL_norm _ h false)), quote_shut h]
    · rw [if_neg hz, if_neg hz, ih _ (by rw [fix_shut h]; exact env_norm h), fix_shut h]
theorem esc_len (l : List Nat) : (escL l).length ≤ 2 * l.length := by
  induction l with
  | nil => exact Nat.le_refl _
  | cons c r ih =>
    by_cases h : c = 34 ∨ c = 92
    · rw [escL_cons_esc h]; simp only [List.length_cons]; omega
    · rw [escL_cons_plain h]; simp only [List.length_cons]; omega
theorem env_len (l : List Nat) : (envL l).length ≤ 2 * l.length + 5 := by
  have := esc_len l
  show (13 :: 10 :: 34 :: (escL l ++ [34, 110])).length ≤ _
  simp only [List.length_cons, List.length_append, List.length_nil]
  omega
theorem dotL_len' : ∀ (l : List Nat) (b : Bool), (dotL b l).length ≤ 2 * l.length := by
  intro l
  induction l with
  | nil => intro b; cases b <;> exact Nat.le_refl _
  | cons c r ih =>
    intro b
    by_cases h : c = 46
    · subst h
      cases b with
      | true => have := ih false; rw [dotL_dot]; simp only [List.length_cons]; omega
      | false => have := ih (46 == 10); rw [dotL_false]; simp only [List.length_cons]; omega
    · have := ih (c == 10); rw [dotL_other h]; simp only [List.length_cons]; omega
theorem eolL_len' (l : List Nat) : (eolL l).length ≤ 2 * l.length := by
  refine eol_ind (P := fun l => (eolL l).length ≤ 2 * l.length) (Nat.le_refl _) ?_ ?_ ?_ ?_ l
  · intro r h; rw [eolL_crlf]; simp only [List.length_cons]; omega
  · intro r hr h; rw [eolL_cr hr]; simp only [List.length_cons]; omega
  · intro r h; rw [eolL_lf]; simp only [List.length_cons]; omega
  · intro c r h1 h2 h; rw [eolL_cons h1 h2]; simp only [List.length_cons]; omega
theorem wrap_len (ms : List Int) : ∀ (y : List Nat), (wrapL y ms).length + 2 ≤ 4 ^ ms.length * (y.length + 2) := by
  induction ms with
  | nil => intro y; show y.length + 2 ≤ 1 * (y.length + 2); omega
  | cons mk r ih =>
    intro y
    show (wrapL (if mk = 0 then envL (dotL false y) else envL y) r).length + 2 ≤ 4 ^ (r.length + 1) * (y.length + 2)
    have h1 : (if mk = 0 then envL (dotL false y) else envL y).length ≤ 4 * y.length + 5 := by
      have a := env_len (dotL false y)
      have b := env_len y
      have c := dotL_len' y false
      split <;> omega
    refine Nat.le_trans (ih _) ?_
    rw [Nat.pow_succ, Nat.mul_assoc]
    exact Nat.mul_le_mul_left _ (by omega)
theorem wrap_short {y : List Nat} {ms : List Int} (hy : y.length ≤ 32) (hm : ms.length ≤ 3) : (wrapL y ms).length ≤ 2200 := by
  have h := wrap_len ms y
  have h4 : 4 ^ ms.length ≤ 4 ^ 3 := Nat.pow_le_pow_right (by decide) hm
  have h5 : 4 ^ ms.length * (y.length + 2) ≤ 4 ^ 3 * 34 := Nat.mul_le_mul h4 (by omega)
  have : (4 : Nat) ^ 3 * 34 = 2176 := by decide
  omega
theorem dots_len (l : List Nat) (k : Nat) : (dots k l).length ≤ 2 ^ k * l.length := by
  induction k with
  | zero => show l.length ≤ 1 * l.length; omega
  | succ k ih =>
    refine Nat.le_trans (dotL_len' _ _) ?_
    rw [Nat.pow_succ, Nat.mul_comm (2 ^ k) 2, Nat.mul_assoc]
    exact Nat.mul_le_mul_left _ ih
theorem open_short {y : List Nat} {ms : List Int} (hy : y.length ≤ 32) (hm : ms.length ≤ 3) (i : Nat) : (openL y ms i).length ≤ 20000 := by
  unfold openL
  have h1 := dots_len (wrapL y (ms.take (ms.length - i))) (zeros (ms.drop (ms.length - i)))
  have h2 : (wrapL y (ms.take (ms.length - i))).length ≤ 2200 := wrap_short hy (by rw [List.length_take]; omega)
  have h3 : zeros (ms.drop (ms.length - i)) ≤ 3 := by
    unfold zeros
    refine Nat.le_trans List.count_le_length ?_
    rw [List.length_drop]; omega
  have h4 : 2 ^ zeros (ms.drop (ms.length - i)) ≤ 2 ^ 3 := Nat.pow_le_pow_right (by decide) h3
  have h5 := Nat.mul_le_mul h4 h2
  have : (2 : Nat) ^ 3 * 2200 = 17600 := by decide
  omega
/-- the data that the first loop starts from -/
abbrev startL (x : Str) : List Nat := dotL true (eolL x.cps.toList)
theorem start_len {x : Str} (h : x.length ≤ 8) : (startL x).length ≤ 32 := by
  have h1 := dotL_len' (eolL x.cps.toList) true
  have h2 := eolL_len' x.cps.toList
  have h3 : x.cps.toList.length = x.length := by rw [Array.length_toList]; rfl
  show (dotL true (eolL x.cps.toList)).length ≤ 32
  omega
theorem start_norm (x : Str) : Norm (startL x) := dotL_norm _ (eolL_idem _) true
theorem bound1 {x : Str} {ms : List Int} (h : x.length ≤ 8) (hm : ms.length ≤ 3) : ∀ i, i < ms.length → (wrapS (quoteS x) (ms.take i)).length ≤ 10000 := by
  intro i hi
  have e := wrap_list (ms.take i) (quoteS x) (start_norm x)
  have h1 : (wrapL (startL x) (ms.take i)).length ≤ 2200 := wrap_short (start_len h) (by rw [List.length_take]; omega)
  have h2 : (wrapS (quoteS x) (ms.take i)).length = (wrapS (quoteS x) (ms.take i)).cps.toList.length := by rw [Array.length_toList]; rfl
  rw [h2, e]
  exact Nat.le_trans h1 (by decide)
theorem wrap_open (x : Str) (ms : List Int) : wrapS (quoteS x) ms = ⟨(openL (startL x) ms 0).toArray⟩ := by
  have e := wrap_list ms (quoteS x) (start_norm x)
  rw [openL_zero]
  show _ = (⟨(wrapL (quoteS x).cps.toList ms).toArray⟩ : Str)
  rw [← e]
theorem bound2 {x : Str} {ms : List Int} (h : x.length ≤ 8) (hm : ms.length ≤ 3) : ∀ i, i < ms.length → openL (startL x) ms i = 13 :: 10 :: 34 :: (escL (openL (startL x) ms (i + 1)) ++ 34 :: [110]) ∧ (openL (startL x) ms i).length ≤ 100000 ∧ (Txt.split (rowsT ⟨(openL (startL x) ms i).toArray⟩) (Str.ofString "\n")).length = 2 + (openL (startL x) ms (i + 1)).count 10 := by
  intro i hi
  refine ⟨openL_step _ _ hi, Nat.le_trans (open_short (start_len h) hm i) (by decide), ?_⟩
  have h1 := rows_count ⟨(openL (startL x) ms i).toArray⟩ (openL_norm (start_norm x) ms i)
  have h2 : (rowsL ⟨(openL (startL x) ms i).toArray⟩).length = (Txt.split (rowsT ⟨(openL (startL x) ms i).toArray⟩) (Str.ofString "\n")).length := List.length_map _
  rw [← h2, h1]
  show 1 + (openL (startL x) ms i).count 10 = _
  rw [openL_step _ _ hi, count_env]
  omega
end Mine
end

-- DT
noncomputable section
open PySem PySem.W PyProof.Rows
set_option maxRecDepth 100000
set_option maxHeartbeats 8000000
namespace Mine
def dotS (k : Nat) (r : Str) : Str := ⟨(dotn k r.cps.toList).toArray⟩
theorem idx1 {n : Nat} (h : 1 ≤ n) : PySem.Builtin.Str.strSliceIndices none (some 1) 1 n = [0] := by
  unfold PySem.Builtin.Str.strSliceIndices
  have e : max 0 (min (1 : Int) (n : Int)) = 1 := by omega
  simp only [show (1 : Int) > 0 by decide, if_true, show ¬ (1 : Int) < 0 by decide, if_false, e]
  rfl
theorem idx0 : PySem.Builtin.Str.strSliceIndices none (some 1) 1 0 = [] := by rfl
theorem slice1 (x : Str) : (Txt.slice x none (some 1)).cps.toList = x.cps.toList.take 1 := by
  obtain ⟨c⟩ := x
  obtain ⟨l⟩ := c
  cases l with
  | nil => rfl
  | cons a r =>
    unfold Txt.slice
    have hn : (⟨⟨a :: r⟩⟩ : Str).length = r.length + 1 := rfl
    rw [hn, idx1 (by omega)]
    cases r with
    | nil => rfl
    | cons b r => rfl
theorem slice_dot (x : Str) : (Txt.slice x none (some 1) == Str.ofString ".") = true ↔ x.cps.toList.head? = some 46 := by
  have e : Str.ofString "." = ⟨#[46]⟩ := by decide +kernel
  have h := slice1 x
  rw [e, beq_iff_eq]
  constructor
  · intro h'
    rw [h'] at h
    cases hx : x.cps.toList with
    | nil => rw [hx] at h; cases h
    | cons a r => rw [hx] at h; simp at h; rw [← h]; rfl
  · intro h'
    cases hx : x.cps.toList with
    | nil => rw [hx] at h'; cases h'
    | cons a r =>
      rw [hx] at h' h
      have ea : a = 46 := Option.some.inj h'
      subst ea
      generalize Txt.slice x none (some 1) = y at h
      obtain ⟨c⟩ := y
      obtain ⟨l⟩ := c
      exact congrArg (fun l => (⟨⟨l⟩⟩ : Str)) h
theorem str_ext {a b : Str} (h : a.cps.toList = b.cps.toList) : a = b := by
  obtain ⟨⟨l⟩⟩ := a
  obtain ⟨⟨l'⟩⟩ := b
  exact congrArg (fun l => (⟨⟨l⟩⟩ : Str)) h
theorem app_list (a b : Str) : (a ++ b).cps.toList = a.cps.toList ++ b.cps.toList := by
  show (a.cps ++ b.cps).toList = _
  exact Array.toList_append
theorem dotS_yes {x : Str} (k : Nat) (h : (Txt.slice x none (some 1) == Str.ofString ".") = true) : Txt.mul (Str.ofString ".") (k : Int) ++ x = dotS k x := by
  have e : Str.ofString "." = ⟨#[46]⟩ := by decide +kernel
  refine str_ext ?_
  rw [app_list, e, mul_one_list]
  show _ = dotn k x.cps.toList
  unfold dotn
  rw [if_pos ((slice_dot x).mp h)]
  rfl
theorem dotS_no {x : Str} (k : Nat) (h : (Txt.slice x none (some 1) == Str.ofString ".") = false) : x = dotS k x := by
  refine str_ext ?_
  show _ = dotn k x.cps.toList
  unfold dotn
  rw [if_neg (fun h' => by rw [(slice_dot x).mpr h'] at h; cases h)]
section
variable {w : World} {p : Program} {loose : List Str} {mean : ExcName → Option Value} {mg mb : Str → Option Value} {gd : Option (List Code)}
    {cn : Str} {cs : Scope} {a : Addr} {ccd : Value} {cl : List (Str × Addr)} {outer : List Env} {A₀ : Around} {base h₀ : Heap} {L : Addr} {m : Str → Option Value} {news : List (Addr × Obj)} {s : Shared} {Q E : Value → Shared → Prop}
    {x : Str} {t tk : Tok} {k : Nat}
theorem dotted_ct (B : Below A₀ base outer h₀) (F : Fr h₀ L s.heap m) (X : (hd.heap_39 w.params).In h₀) (N : News h₀ L s.heap news) (T : Top p loose mean mg mb h₀) (hk : cs.kind = .function)
    (hx : x.length ≤ 100000) (hn : k ≤ 100)
    (ret : ∀ t' h' tk', Fr h₀ L h' m → News h₀ L h' news → Q (.str (dotS k x) t') { s with heap := h', toks := tk' }) :
    wpAny (model PySem.Challenge.rw_ny0037_01.row.prog w) (ktrTop 302 7 gd cn cs L a ccd cl outer) (call (.ref 132) [.str x t, .int (k : Int) tk]) Q E s := by
  w_top off; k_with_none
  revert X; k_fill; intro X
  refine wpAny_call ?_
  k_dflt cell_enter
  k_steps
  · rename (Txt.slice _ _ _ == _) = true => hs
    rename News h₀ L _ _ => kN
    rename Fr h₀ L _ _ => kF
    rw [dotS_yes _ hs]
    exact ret _ _ _ kF kN
  · rename (Txt.slice _ _ _ == _) = false => hs
    rename News h₀ L _ _ => kN
    rename Fr h₀ L _ _ => kF
    have := dotS_no k hs
    have r2 : ∀ t' h' tk', Fr h₀ L h' m → News h₀ L h' news → Q (.str x t') { s with heap := h', toks := tk' } := by
      rw [← this] at ret
      exact ret
    exact r2 _ _ _ kF kN
end
end Mine
end

-- TL0
noncomputable section
open PySem PySem.W PyProof.Rows
set_option maxRecDepth 100000
set_option maxHeartbeats 8000000
namespace Mine
theorem inter_ge (sep : List Nat) : ∀ (R : List (List Nat)) (r : List Nat), r ∈ R → r.length ≤ (interL sep R).length := by
  intro R
  induction R with
  | nil => intro r h; cases h
  | cons p R ih =>
    intro r h
    cases R with
    | nil =>
      rcases List.mem_cons.mp h with e | e
      · rw [e]; exact Nat.le_refl _
      · cases e
    | cons q R =>
      show _ ≤ (p ++ sep ++ interL sep (q :: R)).length
      rw [List.length_append, List.length_append]
      rcases List.mem_cons.mp h with e | e
      · rw [e]; omega
      · have := ih r e; omega
theorem inter_count : ∀ (R : List (List Nat)), R.length ≤ (interL [13, 10] R).length + 1 := by
  intro R
  induction R with
  | nil => exact Nat.zero_le _
  | cons p R ih =>
    cases R with
    | nil => exact Nat.succ_le_succ (Nat.zero_le _)
    | cons q R =>
      show _ ≤ (p ++ [13, 10] ++ interL [13, 10] (q :: R)).length + 1
      simp only [List.length_append, List.length_cons, List.length_nil] at ih ⊢
      omega
theorem row_len {x r : Str} (hx : x.length ≤ 8) (h : r ∈ Txt.split (rowsT x) (Str.ofString "\n")) : r.length ≤ 16 := by
  have h1 : r.cps.toList ∈ rowsL x := List.mem_map.mpr ⟨r, h, rfl⟩
  have h2 := inter_ge [13, 10] _ _ h1
  rw [← eol_rows] at h2
  have h3 := eolL_len' x.cps.toList
  have h4 : x.cps.toList.length = x.length := by rw [Array.length_toList]; rfl
  have h5 : r.cps.toList.length = r.length := by rw [Array.length_toList]; rfl
  omega
theorem row_cnt {x : Str} (hx : x.length ≤ 8) : (Txt.split (rowsT x) (Str.ofString "\n")).length ≤ 17 := by
  have h1 : (rowsL x).length = (Txt.split (rowsT x) (Str.ofString "\n")).length := List.length_map _
  have h2 := inter_count (rowsL x)
  rw [← eol_rows] at h2
  have h3 := eolL_len' x.cps.toList
  have h4 : x.cps.toList.length = x.length := by rw [Array.length_toList]; rfl
  omega
theorem strs_cons {vs : List Value} {r0 : Str} {rs : List Str} (h : StrsAre vs (r0 :: rs)) : ∃ t0 vs', vs = .str r0 t0 :: vs' ∧ StrsAre vs' rs := by
  cases h with
  | cons _ t h => exact ⟨t, _, rfl, h⟩
section
variable {prog : Program} {w : World} {A : Around} {E : Value → Shared → Prop} {s : Shared} {h₀ : Heap} {L : Addr} {m : Str → Option Value} {news : List (Addr × Obj)}
theorem ext_any {D b P : Addr} {oP : Obj} {its its2 : Array Value} {n n2 : Nat} {Q : Value → Shared → Prop} (F : Fr h₀ L s.heap m) (N : News h₀ L s.heap news) (hD : (D, listOf its n) ∈ news) (hb : (b, listOf its2 n2) ∈ news) (hP : (P, oP) ∈ news) (hne : @Ne Nat b D) (hnP : @Ne Nat P D) (hz : its.size + its2.size ≤ 1000)
    (h : ∀ n' h', Fr h₀ L h' m → News h₀ L h' [(D, listOf (its.toList ++ its2.toList).toArray n'), (P, oP)] → Q .none { s with heap := h' }) : wpAny (model prog w) A (call (.builtin "list.extend") [.ref D, .ref b]) Q E s := by
  have N2 : News h₀ L s.heap [(D, listOf its n), (b, listOf its2 n2), (P, oP)] := by
    intro p hp
    rcases List.mem_cons.mp hp with e | e
    · rw [e]; exact N _ hD
    · rcases List.mem_cons.mp e with e | e
      · rw [e]; exact N _ hb
      · rcases List.mem_cons.mp e with e | e
        · rw [e]; exact N _ hP
        · cases e
  have hoff : ∀ p ∈ [(b, listOf its2 n2), (P, oP)], p.1 ≠ D := by
    intro p hp
    rcases List.mem_cons.mp hp with e | e
    · rw [e]; exact hne
    · rcases List.mem_cons.mp e with e | e
      · rw [e]; exact hnP
      · cases e
  have hd : ¬(!its.isEmpty && PySem.Builtin.List.listTooLong (its.size + its2.size)) = true := by
    intro hh
    rw [Bool.and_eq_true] at hh
    have := hh.2
    unfold PySem.Builtin.List.listTooLong at this
    rw [decide_eq_true_iff, PySem.sizeLine_eq] at this
    omega
  have z1 : its.toList.length ≤ sizeLine := by rw [Array.length_toList, PySem.sizeLine_eq]; omega
  have z2 : its.size + its2.size ≤ sizeLine + 1 := by rw [PySem.sizeLine_eq]; omega
  by_cases h0 : its2.toList.length = 0
  · have e0 : its2.toList = [] := List.length_eq_zero_iff.mp h0
    refine kxn_extend F N2 (.tail _ (.head _)) e0 (.head hoff) hd z1 z2 ?_
    intro h' F' N'
    refine h n h' F' ?_
    rw [e0, List.append_nil]
    intro p hp
    rcases List.mem_cons.mp hp with e | e
    · rw [e]; exact N' _ (.head _)
    · rcases List.mem_cons.mp e with e | e
      · rw [e]; exact N' _ (.tail _ (.tail _ (.head _)))
      · cases e
  · refine kl_extend F N2 (.tail _ (.head _)) rfl h0 (.head hoff) hd z1 z2 ?_
    intro h' F' N'
    refine h (n + 1) h' F' ?_
    intro p hp
    rcases List.mem_cons.mp hp with e | e
    · rw [e]; exact N' _ (.head _)
    · rcases List.mem_cons.mp e with e | e
      · rw [e]; exact N' _ (.tail _ (.tail _ (.head _)))
      · cases e
end
section
variable {prog : Program} {w : World} {A : Around} {h₀ : Heap} {L : Addr} {m : Str → Option Value} {env : Env} {elt : Expr} {x : Str} {scope : Scope} {cl : List (Str × Addr)} {s : Shared} {S : List (Addr × Obj) → Prop} {Fin : List Value → List (Addr × Obj) → Prop} {news : List (Addr × Obj)}
theorem strs_at {vs : List Value} {ns : List Str} (h : StrsAre vs ns) : ∀ (i : Nat) (v : Value), vs[i]? = some v → ∃ k t, ns[i]? = some k ∧ v = .str k t := by
  induction h with
  | nil => intro i v e; cases e
  | cons y t _ ih =>
    intro i v e
    cases i with
    | zero => exact ⟨y, t, rfl, (Option.some.inj e).symm⟩
    | succ i => exact ih i v e
/-- a comprehension over a list of texts that makes a text for each -/
theorem strs_comp {vs : List Value} {ns : List Str} (g : Str → Str) (hi : StrsAre vs ns)
    (turn : ∀ k t I oI C oC D m₂ ys h tk (E' : Value → Shared → Prop), k ∈ ns → LCg.NsObj oC m₂ → m₂ x = some (.str k t) → Fr h₀ L h m → News h₀ L h ((I, oI) :: (C, oC) :: (D, LCg.lst ys) :: news) → LCg.Off3 I C D news → ((@Ne Nat I C) ∧ (@Ne Nat I D) ∧ (@Ne Nat C D)) → S news →
      wpAny (model prog w) A (eval elt (compEnvC scope cl C env)) (fun y s₂ => ∃ h' tk' t', y = .str (g k) t' ∧ s₂ = { s with heap := h', toks := tk' } ∧ Fr h₀ L h' m ∧ News h₀ L h' ((I, oI) :: (C, oC) :: (D, LCg.lst ys) :: news)) E' { s with heap := h, toks := tk })
    (hS : S news) (fin : ∀ ys, StrsAre ys (ns.map g) → Fin ys news) : LCg.CompRest prog w A h₀ L m env elt x scope cl s S (fun i v => vs.toArray[i]? = some v) Fin vs.toArray.size 0 [] news := by
  have hlen : vs.length = ns.length := hi.length
  have key : ∀ (j i : Nat) (ys : List Value), i + j = ns.length → StrsAre ys ((ns.take i).map g) → LCg.CompRest prog w A h₀ L m env elt x scope cl s S (fun i v => vs.toArray[i]? = some v) Fin j i ys news := by
    intro j
    induction j with
    | zero =>
      intro i ys e hy
      have e' : i = ns.length := by omega
      rw [e', List.take_length] at hy
      exact LCg.CompRest.zero (fin ys hy)
    | succ j ih =>
      intro i ys e hy
      refine LCg.CompRest.succ ?_
      intro v I oI C oC D m₂ h tk E' hv hC hx F N off ne
      obtain ⟨k, t, hk, rfl⟩ := strs_at hi i v (by simpa using hv)
      refine wpAny_mono (turn k t I oI C oC D m₂ ys h tk E' (List.mem_of_getElem? hk) hC hx F N off ne hS) (fun y s₂ hq => ?_) fun _ _ e => e
      obtain ⟨h', tk', t', rfl, rfl, F', N'⟩ := hq
      refine ⟨h', tk', news, rfl, F', N', off, hS, ?_⟩
      refine ih (i + 1) _ (by omega) ?_
      rw [List.take_add_one, hk]
      simpa using kct_snoc hy
  have := key ns.length 0 [] (by omega) (by rw [List.take_zero, List.map_nil]; exact .nil)
  rw [List.size_toArray, hlen]
  exact this
end
theorem final_eq {x z r0 : Str} {rs : List Str} {ms : List Int} (hz : z.cps.toList = dots (zeros ms) (startL x)) (h : Txt.split (rowsT x) (Str.ofString "\n") = r0 :: rs) :
    z = Txt.join (Str.ofString "\x0d\n") (dotS 1 r0 :: rs.map (dotS (1 + ms.count 0))) := by
  have e1 : Txt.join (Str.ofString "\x0d\n") (dotS 1 r0 :: rs.map (dotS (1 + ms.count 0))) = Str.join (Str.ofString "\x0d\n") (dotS 1 r0 :: rs.map (dotS (1 + ms.count 0))) := eq_of_beq (join_plain_closes _ _)
  have e2 : (Str.ofString "\x0d\n").cps.toList = [13, 10] := by decide +kernel
  refine str_ext ?_
  rw [e1, join_inter, e2, hz]
  have hr : rowsL x = r0.cps.toList :: rs.map (·.cps.toList) := by
    show (Txt.split (rowsT x) (Str.ofString "\n")).map (·.cps.toList) = _
    rw [h]; rfl
  rw [last_law x (zeros ms) _ _ hr]
  simp only [List.map_cons, List.map_map]
  rfl
theorem dotS_len (k : Nat) (r : Str) : (dotS k r).length ≤ k + r.length := by
  show (dotn k r.cps.toList).toArray.size ≤ _
  have h5 : r.cps.toList.length = r.length := by rw [Array.length_toList]; rfl
  rw [List.size_toArray]
  unfold dotn
  split
  · rw [List.length_append, List.length_replicate]; omega
  · omega
theorem sum_le {B : Nat} : ∀ (l : List Str), (∀ a ∈ l, a.length ≤ B) → (l.map (·.length)).sum ≤ l.length * B := by
  intro l
  induction l with
  | nil => intro _; exact Nat.zero_le _
  | cons a r ih =>
    intro h
    have h1 := h a (.head _)
    have h2 := ih (fun b hb => h b (.tail _ hb))
    simp only [List.map_cons, List.sum_cons, List.length_cons]
    rw [Nat.succ_mul]
    omega
end Mine
end

-- TL
noncomputable section
open PySem PySem.W PyProof.Rows
set_option maxRecDepth 100000
set_option maxHeartbeats 8000000
namespace Mine
section
variable {w : World} {p : Program} {loose : List Str} {mean : ExcName → Option Value} {mg mb : Str → Option Value} {gd : Option (List Code)}
    {cn : Str} {cs : Scope} {a : Addr} {ccd : Value} {cl : List (Str × Addr)} {outer : List Env} {A₀ : Around} {base h₀ : Heap} {L : Addr} {m : Str → Option Value} {s : Shared}
    {x : Str} {t tk : Tok} {news : List (Addr × Obj)}
theorem rows_ct2 {Q E : Value → Shared → Prop} (B : Below A₀ base outer h₀) (F : Fr h₀ L s.heap m) (X : (hd.heap_39 w.params).In h₀)
    (N : News h₀ L s.heap news) (T : Top p loose mean mg mb h₀) (hk : cs.kind = .function) (hx : x.length ≤ 8)
    (ret : ∀ d r0 t0 vs rs k h' tk', Txt.split (rowsT x) (Str.ofString "\n") = r0 :: rs → StrsAre vs rs → r0.length ≤ 16 → (∀ r ∈ rs, r.length ≤ 16) → rs.length ≤ 16 → Fr h₀ L h' m → News h₀ L h' ((d, listOf (Value.str r0 t0 :: vs).toArray k) :: news) → (∀ p ∈ news, p.1 < d) → Q (.ref d) { s with heap := h', toks := tk' }) :
    wpAny (model PySem.Challenge.rw_ny0037_01.row.prog w) (ktrTop 302 7 gd cn cs L a ccd cl outer) (call (.ref 125) [.str x t]) Q E s := by
  refine rows_ct B F X N T hk (by omega) ?_
  intro d vs k h' tk' F' N' hS hl
  cases e : Txt.split (rowsT x) (Str.ofString "\n") with
  | nil => exact absurd e (split_ne _ _)
  | cons r0 rs =>
    have h1 := row_cnt hx
    rw [e] at hS h1
    obtain ⟨t0, vs', rfl, hS'⟩ := strs_cons hS
    exact ret d r0 t0 vs' rs k h' tk' e hS' (row_len hx (by rw [e]; exact .head _)) (fun r hr => row_len hx (by rw [e]; exact .tail _ hr)) (by rw [List.length_cons] at h1; omega) F' N' hl
theorem dotted_one {Q E : Value → Shared → Prop} (B : Below A₀ base outer h₀) (F : Fr h₀ L s.heap m) (X : (hd.heap_39 w.params).In h₀) (N : News h₀ L s.heap news) (T : Top p loose mean mg mb h₀) (hk : cs.kind = .function)
    (hx : x.length ≤ 16)
    (ret : ∀ t' h' tk', Fr h₀ L h' m → News h₀ L h' news → Q (.str (dotS 1 x) t') { s with heap := h', toks := tk' }) :
    wpAny (model PySem.Challenge.rw_ny0037_01.row.prog w) (ktrTop 302 7 gd cn cs L a ccd cl outer) (call (.ref 132) [.str x t, .int 1 tk]) Q E s :=
  dotted_ct (k := 1) B F X N T hk (by omega) (by decide) ret
theorem dotted_more {Q E : Value → Shared → Prop} {c : Nat} (B : Below A₀ base outer h₀) (F : Fr h₀ L s.heap m) (X : (hd.heap_39 w.params).In h₀) (N : News h₀ L s.heap news) (T : Top p loose mean mg mb h₀) (hk : cs.kind = .function)
    (hx : x.length ≤ 16) (hc : c ≤ 3)
    (ret : ∀ t' h' tk', Fr h₀ L h' m → News h₀ L h' news → Q (.str (dotS (1 + c) x) t') { s with heap := h', toks := tk' }) :
    wpAny (model PySem.Challenge.rw_ny0037_01.row.prog w) (ktrTop 302 7 gd cn cs L a ccd cl outer) (call (.ref 132) [.str x t, .int (1 + (c : Int)) tk]) Q E s := by
  have e : (1 : Int) + (c : Int) = ((1 + c : Nat) : Int) := by omega
  rw [e]
  exact dotted_ct (k := 1 + c) B F X N T hk (by omega) (by omega) ret
end
section
variable {prog : Program} {w : World} {A : Around} {E : Value → Shared → Prop} {s : Shared} {h₀ : Heap} {L : Addr} {m : Str → Option Value} {news : List (Addr × Obj)} {value slice : PySem.Expr} {l : Addr} {v : Value} {vs : List Value} {rs : List Str} {t1 : Tok} {Q : Value → Shared → Prop}
theorem due_join {D : Addr} {r0 x z : Str} {ms : List Int} {ys : List Value} {t1 tsep : Tok} {Q : Value → Shared → Prop} (hl : s.heap.IsList D ((#[Value.str (dotS 1 r0) t1] : Array Value).toList ++ ys.toArray.toList).toArray) (hY : StrsAre ys (rs.map (dotS (1 + ms.count 0)))) (hsp : Txt.split (rowsT x) (Str.ofString "\n") = r0 :: rs)
    (hz : z.cps.toList = dots (zeros ms) (startL x)) (hr0 : r0.length ≤ 16) (hrs : ∀ r ∈ rs, r.length ≤ 16) (hrl : rs.length ≤ 16) (hms : ms.length ≤ 3)
    (h : ∀ t' k, Q (.str z t') { s with toks := k }) : wpAny (model prog w) A (call (.builtin "str.join") [.str (Str.ofString "\x0d\n") tsep, .ref D]) Q E s := by
  have hS : StrsAre ((#[Value.str (dotS 1 r0) t1] : Array Value).toList ++ ys.toArray.toList).toArray.toList (dotS 1 r0 :: rs.map (dotS (1 + ms.count 0))) := .cons _ _ hY
  have hc : ms.count 0 ≤ 3 := Nat.le_trans List.count_le_length hms
  have hl2 : (Str.ofString "\x0d\n").length = 2 := by decide +kernel
  have hb : ∀ a ∈ dotS 1 r0 :: rs.map (dotS (1 + ms.count 0)), a.length ≤ 20 := by
    intro a ha
    rcases List.mem_cons.mp ha with e | e
    · rw [e]; have := dotS_len 1 r0; omega
    · obtain ⟨r, hr, rfl⟩ := List.mem_map.mp e
      have := dotS_len (1 + ms.count 0) r
      have := hrs r hr
      omega
  have h1 := sum_le _ hb
  have h2 : (dotS 1 r0 :: rs.map (dotS (1 + ms.count 0))).length ≤ 17 := by rw [List.length_cons, List.length_map]; omega
  refine join_list hl hS ?_ ?_
  · rw [hl2]; omega
  · intro t' k
    rw [← final_eq hz hsp]
    exact h t' k
theorem slice1L (F : Fr h₀ L s.heap m) (N : News h₀ L s.heap news) (hl : s.heap.IsList l (v :: vs).toArray) (hi : StrsAre vs rs) (hc : rs.length ≤ 16)
    (h : ∀ D h', Fr h₀ L h' m → News h₀ L h' ((D, listOf vs.toArray 0) :: news) → (∀ p ∈ news, p.1 < D) → Q (.ref D) { s with heap := h' })
    (hs : subscripted slice false (.ref l) (.ref s.heap.objs.size) = operate [.ref s.heap.objs.size, .ref l] (getItem (.ref l) (.ref s.heap.objs.size))) (ht : ∀ r, letTemporaryGo value (.ref l) r = pure ()) :
    wpAny (model prog w) A (subscriptTail value slice (.ref l) (.ref s.heap.objs.size)) Q E { s with heap := s.heap.push { cls := .type "slice", data := .fields #[.int 1 t1, .none, .none] } } := by
  have e : (slicePick (v :: vs).toArray (some 1) none none).toList = vs := by
    have := slicePick_from' (v :: vs).toArray 1
    rw [show (some ((1 : Nat) : Int)) = some (1 : Int) from rfl] at this
    rw [this]
    rfl
  refine kmk_slice_lit F N hl (.int 1 t1) .none e h hs ht ?_
  rw [List.size_toArray, List.length_cons, hi.length, PySem.sizeLine_eq]
  omega
end
def TurnEnd (h₀ : Heap) (L : Addr) (m : Str → Option Value) (s : Shared) (r : Str) (nw : List (Addr × Obj)) (y : Value) (s₂ : Shared) : Prop := ∃ h' tk' t', y = .str r t' ∧ s₂ = { s with heap := h', toks := tk' } ∧ Fr h₀ L h' m ∧ News h₀ L h' nw
theorem TurnEnd.intro {h₀ : Heap} {L : Addr} {m : Str → Option Value} {s : Shared} {r : Str} {nw : List (Addr × Obj)} {h' : Heap} {tk' : Nat} {t' : Tok} (F : Fr h₀ L h' m) (N : News h₀ L h' nw) : TurnEnd h₀ L m s r nw (.str r t') { s with heap := h', toks := tk' } := ⟨h', tk', t', rfl, rfl, F, N⟩
section
variable {prog : Program} {w : World} {A : Around} {h₀ : Heap} {L : Addr} {m : Str → Option Value} {env : Env} {elt : Expr} {x : Str} {scope : Scope} {cl : List (Str × Addr)} {s : Shared} {S : List (Addr × Obj) → Prop} {Fin : List Value → List (Addr × Obj) → Prop} {news : List (Addr × Obj)}
theorem strs_comp2 {vs us : List Value} {ns : List Str} {ms : List Int} (_hI : IntsAre us ms) (hi : StrsAre vs ns)
    (turn : ∀ k t I oI C oC D m₂ ys h tk (E' : Value → Shared → Prop), k ∈ ns → LCg.NsObj oC m₂ → m₂ x = some (.str k t) → Fr h₀ L h m → News h₀ L h ((I, oI) :: (C, oC) :: (D, LCg.lst ys) :: news) → LCg.Off3 I C D news → ((@Ne Nat I C) ∧ (@Ne Nat I D) ∧ (@Ne Nat C D)) → S news →
      wpAny (model prog w) A (eval elt (compEnvC scope cl C env)) (TurnEnd h₀ L m s (dotS (1 + ms.count 0) k) ((I, oI) :: (C, oC) :: (D, LCg.lst ys) :: news)) E' { s with heap := h, toks := tk })
    (hS : S news) (fin : ∀ ys, StrsAre ys (ns.map (dotS (1 + ms.count 0))) → Fin ys news) : LCg.CompRest prog w A h₀ L m env elt x scope cl s S (fun i v => vs.toArray[i]? = some v) Fin vs.toArray.size 0 [] news :=
  strs_comp (dotS (1 + ms.count 0)) hi turn hS fin
end
local macro_rules | `(tactic| walk_at "call ref") => `(tactic| (k_here; (with_reducible show wpAny _ _ (call (Value.ref 125) [Value.str _ _]) _ _ _); k_dflt (refine' rows_ct2 ?k1 ?k2 ?k3 ?k4 ?k5 rfl ?k6 ?_; (case k1 => k_asm); (case k2 => k_asm); (case k3 => k_asm); (case k4 => k_asm); (case k5 => k_asm); (case k6 => omega); k_whole); intro d' r0' t0' vs' rs' k' h' tk' hsp' hS' hr0' hrs' hrl' F' N' l1; (try k_lt l1); (try dsimp only); (try k_fold)))
local macro_rules | `(tactic| walk_at "call ref") => `(tactic| (k_here; (with_reducible show wpAny _ _ (call (Value.ref 132) [Value.str _ _, Value.int _ _]) _ _ _); k_dflt (first
  | (refine' dotted_one ?k1 ?k2 ?k3 ?k4 ?k5 rfl ?k6 ?_; (case k1 => k_asm); (case k2 => k_asm); (case k3 => k_asm); (case k4 => k_asm); (case k5 => k_asm); (case k6 => assumption); k_whole)
  | (refine' dotted_more ?k1 ?k2 ?k3 ?k4 ?k5 rfl ?k6 ?k7 ?_; (case k1 => k_asm); (case k2 => k_asm); (case k3 => k_asm); (case k4 => k_asm); (case k5 => k_asm); (case k6 => (rename ∀ r ∈ _, Str.length r ≤ 16 => hR'; exact hR' _ (by assumption))); (case k7 => (refine Nat.le_trans List.count_le_length ?_; assumption)); k_whole)); intro t' h' tk' F' N'; (try dsimp only); (try k_fold)))
local macro_rules | `(tactic| walk_at "eval ListComp") => `(tactic| (k_here; k_dflt ((refine LCg.ListComp_U (F₀ := by k_asm) (by with_unfolding_all rfl) (by decide) (by rfl) (by decide) (by rfl) ?_))))
local macro_rules | `(tactic| walk_at "CompSrc") => `(tactic| (k_here; k_dflt (((rename IntsAre _ _ => hInts); (rename StrsAre _ _ => hStrs); (refine LCg.CompSrc.ledger (by rfl) (by k_asm) (by k_asm) (by k_mem) (by (rw [List.size_toArray, hStrs.length, PySem.sizeLine_eq]; omega)) ?_); intro g'; (refine strs_comp2 hInts hStrs (fun k' t' I' oI' C' oC' D' m' ys' h' tk' E' hk' hC' hx' F' N' off' ne' hS' => ?_) (.inr ⟨_, List.Mem.head _, rfl, _, rfl⟩) (fun ys' hY' => ?_)); (all_goals (try (simp only [LCg.Off3, and_true] at off')))))))
local macro_rules | `(tactic| walk_at "TurnEnd") => `(tactic| (k_here; exact TurnEnd.intro (by k_asm) (by k_asm)))
local macro_rules | `(tactic| walk_at "call builtin:list.extend") => `(tactic| (k_here; k_dflt (((rename StrsAre _ (List.map _ _) => hStrs); refine' ext_any (P := 113) ?F ?N ?D ?b ?P ?n ?nP ?z ?_; (case F => k_asm); (case N => k_asm); (case D => k_mem); (case b => k_mem); (case P => k_mem); (case n => first | assumption | omega); (case nP => first | assumption | omega); (case z => (simp only [List.size_toArray, hStrs.length, List.length_map, List.length_cons, List.length_nil]; omega)))); intro n' h' F' N'; (try dsimp only)))
local macro_rules | `(tactic| walk_at "call builtin:str.join") => `(tactic| (k_here; k_dflt (((rename StrsAre _ (List.map _ _) => hStrs); (rename Txt.split _ _ = _ => hSp); refine' due_join ?l hStrs hSp ?z ?r ?rr ?rl ?ms ?_; (case l => exact News.isList (by k_asm) (by k_mem)); (case z => assumption); (case r => assumption); (case rr => assumption); (case rl => assumption); (case ms => assumption))); intro t' k'; (try dsimp only)))
local macro_rules | `(tactic| walk_at "subscriptTail") => `(tactic| (k_here; (with_reducible show wpAny _ _ (subscriptTail _ _ (Value.ref _) (Value.int _ _)) _ _ _); k_dflt (refine item_listL (News.isList (by k_asm) (by k_mem)) (by decide) (by decide) (by rfl) ?_)))
local macro_rules | `(tactic| walk_at "subscriptTail Name Slice ref ref") => `(tactic| (k_here; (with_reducible show wpAny _ _ (subscriptTail _ (PySem.Expr.Slice _ _ none _) (Value.ref _) (Value.ref _)) _ _ _); k_dflt ((refine' slice1L ?F ?N ?l ?i ?c ?_ ?s ?t; (case F => k_asm); (case N => k_asm); (case l => kmk_list); (case i => assumption); (case c => assumption); (case s => with_unfolding_all rfl); (case t => kmk_pure))); intro D' h' F' N' l1; (try k_lt l1); (try k_sweep)))
section
variable {w : World} {p : Program} {loose : List Str} {mean : ExcName → Option Value} {mg mb : Str → Option Value} {gd : Option (List Code)}
    {fa : Addr} {cd : Value} {outer : List Env} {A₀ : Around} {base h₀ : Heap} {L : Addr} {m0 : Str → Option Value} {s : Shared}
    {x z : Str} {tx tz : Tok} {D cs cm : Addr} {vs : List Value} {ms : List Int} {kk : Nat} {ocm : Obj} {ps : Array Value}
theorem tail {Q : Flow → Shared → Prop} {E : Value → Shared → Prop} (B : Below A₀ base outer h₀) (F : Fr h₀ L s.heap (fun y => if y = Str.ofString "sent" then some (.str z tz) else if y = Str.ofString "text" then some (.str x tx) else m0 y)) (X : (hd.heap_39 w.params).In h₀)
    (N : News h₀ L s.heap [(cm, ocm), (D, listOf vs.toArray kk), (113, tabObj ps)]) (T : Top p loose mean mg mb h₀)
    (hcd : ocm.data = .cell (some (.ref D))) (hI : IntsAre vs ms) (hm : ms.length ≤ 3) (hx : x.length ≤ 8)
    (hz : z.cps.toList = dots (zeros ms) (startL x))
    (ret : ∀ m' ps' h' tk', Fr h₀ L h' m' → News h₀ L h' [(113, tabObj ps')] → Q (.ret (.bool true)) { s with heap := h', toks := tk' }) :
    wpAny (model PySem.Challenge.rw_ny0037_01.row.prog w) (ktrTop 302 7 gd (Str.ofString "law") lawD.1.2 L fa cd [(Str.ofString "marks", cm), (Str.ofString "signs", cs)] outer) (execs (lawD.1.1.drop 7) (envX (Str.ofString "law") lawD.1.2 L fa cd [(Str.ofString "marks", cm), (Str.ofString "signs", cs)])) Q E s := by
  w_top off; k_with_none
  revert X; k_fill; intro X
  dsimp only [lawD, List.drop]
  k_steps
  rw [beq_self_eq_true]
  exact ret _ ps _ _ (by k_asm) (fun q hq => by rcases List.mem_cons.mp hq with e | e; (rw [e]; rename News _ _ _ _ => NN; exact NN _ (by k_mem)); cases e)
end
end Mine
end

-- AF
noncomputable section
open PySem PySem.W PyProof.Rows
set_option maxRecDepth 100000
set_option maxHeartbeats 8000000
namespace Mine
section
variable {w : World} {p : Program} {loose : List Str} {mean : ExcName → Option Value} {mg mb : Str → Option Value} {gd : Option (List Code)}
    {fa : Addr} {cd : Value} {outer : List Env} {A₀ : Around} {base h₀ : Heap} {L : Addr} {m0 : Str → Option Value} {s : Shared}
    {x : Str} {tx tz : Tok} {D cs cm : Addr} {vs : List Value} {ms : List Int} {kk : Nat} {ocm : Obj} {news : List (Addr × Obj)}
/-- the second loop and the end -/
theorem after1 {Q : Flow → Shared → Prop} {E : Value → Shared → Prop} (B : Below A₀ base outer h₀) (F : Fr h₀ L s.heap m0) (X : (hd.heap_39 w.params).In h₀) (C : CodeHd base 117 113)
    (N : News h₀ L s.heap news) (T : Top p loose mean mg mb h₀) (h113 : @LT.lt Nat _ 113 L) (h3 : (113, tabObj #[]) ∈ news) (hcm : (cm, ocm) ∈ news) (hD : (D, listOf vs.toArray kk) ∈ news)
    (hcn : @Ne Nat cm 113) (hDn : @Ne Nat D 113)
    (hcd : ocm.data = .cell (some (.ref D))) (hI : IntsAre vs ms) (hm : ms.length ≤ 3) (hx : x.length ≤ 8)
    (hs : m0 (Str.ofString "sent") = some (.str (wrapS (quoteS x) ms) tz)) (ht : m0 (Str.ofString "text") = some (.str x tx))
    (hE : PassesOwn (model PySem.Challenge.rw_ny0037_01.row.prog w) (ktrTop 302 7 gd (Str.ofString "law") lawD.1.2 L fa cd [(Str.ofString "marks", cm), (Str.ofString "signs", cs)] outer) (envX (Str.ofString "law") lawD.1.2 L fa cd [(Str.ofString "marks", cm), (Str.ofString "signs", cs)]) E)
    (ret : ∀ m' ps' h' tk', Fr h₀ L h' m' → News h₀ L h' [(113, tabObj ps')] → Q (.ret (.bool true)) { s with heap := h', toks := tk' }) :
    wpAny (model PySem.Challenge.rw_ny0037_01.row.prog w) (ktrTop 302 7 gd (Str.ofString "law") lawD.1.2 L fa cd [(Str.ofString "marks", cm), (Str.ofString "signs", cs)] outer) (execs (lawD.1.1.drop 6) (envX (Str.ofString "law") lawD.1.2 L fa cd [(Str.ofString "marks", cm), (Str.ofString "signs", cs)])) Q E s := by
  have hoff : OwnOff [(cm, ocm), (D, listOf vs.toArray kk)] [113] := by
    intro q hq b hb
    rcases List.mem_cons.mp hb with e | e
    · rw [e]
      rcases List.mem_cons.mp hq with e | e
      · rw [e]; exact hcn
      · rcases List.mem_cons.mp e with e | e
        · rw [e]; exact hDn
        · cases e
    · cases e
  have N2 : News h₀ L s.heap ((113, tabObj #[]) :: [(cm, ocm), (D, listOf vs.toArray kk)]) := by
    intro q hq
    rcases List.mem_cons.mp hq with e | e
    · rw [e]; exact N _ h3
    · rcases List.mem_cons.mp e with e | e
      · rw [e]; exact N _ hcm
      · rcases List.mem_cons.mp e with e | e
        · rw [e]; exact N _ hD
        · cases e
  refine wpAny_execs_cons ?_
  refine loop2 (t := tz) (S := openL (startL x) ms) B F X C N2 T hoff (.inl rfl) h113 rfl (.head _) hcd (.tail _ (.head _)) hI ?_ (bound2 hx hm) hE ?_
  · rw [hs, wrap_open]
  · intro m' t' ps' extra h' tk' F' hs' hy' N'
    have N3 : News h₀ L h' [(cm, ocm), (D, listOf vs.toArray kk), (113, tabObj ps')] := by
      intro q hq
      rcases List.mem_cons.mp hq with e | e
      · rw [e]; exact N' _ (.tail _ (List.mem_append_right _ (.head _)))
      · rcases List.mem_cons.mp e with e | e
        · rw [e]; exact N' _ (.tail _ (List.mem_append_right _ (.tail _ (.head _))))
        · rcases List.mem_cons.mp e with e | e
          · rw [e]; exact N' _ (.head _)
          · cases e
    have F3 : Fr h₀ L h' (fun y => if y = Str.ofString "sent" then some (.str ⟨(openL (startL x) ms ms.length).toArray⟩ t') else if y = Str.ofString "text" then some (.str x tx) else m' y) := by
      refine fr_eq F' ?_
      intro y
      by_cases h1 : y = Str.ofString "sent"
      · simp only [if_pos h1]; rw [h1]; exact hs'
      · by_cases h2 : y = Str.ofString "text"
        · simp only [if_neg h1, if_pos h2]
          rw [h2, hy' _ (by decide +kernel), ht]
        · simp only [if_neg h1, if_neg h2]
    refine tail (s := { s with heap := h', toks := tk' }) B F3 X N3 T hcd hI hm hx ?_ ret
    show openL (startL x) ms ms.length = _
    rw [openL_last]
theorem after1c {cl : List (Str × Addr)} {Q : Flow → Shared → Prop} {E : Value → Shared → Prop} (hcl : cl = [(Str.ofString "marks", cm), (Str.ofString "signs", cs)]) (B : Below A₀ base outer h₀) (F : Fr h₀ L s.heap m0) (X : (hd.heap_39 w.params).In h₀) (C : CodeHd base 117 113)
    (N : News h₀ L s.heap news) (T : Top p loose mean mg mb h₀) (h113 : @LT.lt Nat _ 113 L) (h3 : (113, tabObj #[]) ∈ news) (hcm : (cm, ocm) ∈ news) (hD : (D, listOf vs.toArray kk) ∈ news)
    (hcn : @Ne Nat cm 113) (hDn : @Ne Nat D 113)
    (hcd : ocm.data = .cell (some (.ref D))) (hI : IntsAre vs ms) (hm : ms.length ≤ 3) (hx : x.length ≤ 8)
    (hs : m0 (Str.ofString "sent") = some (.str (wrapS (quoteS x) ms) tz)) (ht : m0 (Str.ofString "text") = some (.str x tx))
    (hE : PassesOwn (model PySem.Challenge.rw_ny0037_01.row.prog w) (ktrTop 302 7 (some []) (Str.ofString "law") lawD.1.2 L fa cd cl outer) (envX (Str.ofString "law") lawD.1.2 L fa cd cl) E)
    (ret : ∀ m' ps' h' tk', Fr h₀ L h' m' → News h₀ L h' [(113, tabObj ps')] → Q (.ret (.bool true)) { s with heap := h', toks := tk' }) :
    wpAny (model PySem.Challenge.rw_ny0037_01.row.prog w) (ktrTop 302 7 (some []) (Str.ofString "law") lawD.1.2 L fa cd cl outer) (execs (lawD.1.1.drop 6) (envX (Str.ofString "law") lawD.1.2 L fa cd cl)) Q E s := by
  subst hcl
  exact after1 B F X C N T h113 h3 hcm hD hcn hDn hcd hI hm hx hs ht hE ret
end
end Mine
end

open PySem PySem.W PyProof.Rows
set_option maxRecDepth 100000
set_option maxHeartbeats 8000000
local macro_rules | `(tactic| walk_at "call ref") => `(tactic| (k_here; (with_reducible show wpAny _ _ (call (Value.ref 111) [Value.ref _]) _ _ _); k_dflt (refine' Mine.figures_ct ?k1 ?k2 ?k3 ?k4 ?k5 ?k6 ?k7 ?k8 ?k9 ?_; (case k1 => k_asm); (case k2 => k_asm); (case k3 => k_asm); (case k4 => k_asm); (case k5 => k_asm); (case k6 => exact rfl); (case k7 => k_asm); (case k8 => k_asm); (case k9 => omega); k_whole); intro d' vs' fs' n' h' tk' F' N' hI' hl' l1; (try k_lt l1); (try dsimp only); (try k_fold)))
local macro_rules | `(tactic| walk_at "call ref") => `(tactic| (k_here; (with_reducible show wpAny _ _ (call (Value.ref 97) [Value.str _ _]) _ _ _); k_dflt (refine' Mine.quotedata_ct ?k1 ?k2 ?k3 ?k4 ?k5 ?k6 ?k7 ?_; (case k1 => k_asm); (case k2 => k_asm); (case k3 => k_asm); (case k4 => k_asm); (case k5 => k_asm); (case k6 => exact rfl); (case k7 => first | assumption | omega); k_whole); intro t' h' tk' F' N'; (try dsimp only); (try k_fold)))
local macro_rules | `(tactic| walk_at "call ref") => `(tactic| (k_here; (with_reducible show wpAny _ _ (call (Value.ref 125) [Value.str _ _]) _ _ _); k_dflt (refine' Mine.rows_ct ?k1 ?k2 ?k3 ?k4 ?k5 rfl ?k6 ?_; (case k1 => k_asm); (case k2 => k_asm); (case k3 => k_asm); (case k4 => k_asm); (case k5 => k_asm); (case k6 => omega); k_whole); intro d' vs' k' h' tk' F' N' hS' l1; (try k_lt l1); (try dsimp only); (try k_fold)))
local macro_rules | `(tactic| walk_at "CompSrc") => `(tactic| (k_here; (with_reducible show LCg.CompSrc _ _ _ _ _ _ _ (PySem.Expr.Subscript _ _ _) _ _ _ _ _ _); k_dflt ((refine LCg.CompSrc.ledger (by rfl) (by k_asm) (by k_asm) (by k_mem) (by kcf_size) ?_); intro g'; (refine' kct_list (fun k => Txt.item Mine.SIGNS (k.fmod 8)) (by first | assumption | l_ints) (fun k' t' I' oI' C' oC' D' m' ys' h' tk' E' hk' hC' hx' F' N' off' ne' hMark' => ?_) ?_); (all_goals (try (simp only [LCg.Off3, and_true] at off'))))))
local macro_rules | `(tactic| walk_at "call builtin:str.join") => `(tactic| (k_here; (with_reducible rename CarriedAll _ (List.map _ _) => ktC); k_dflt ((refine Mine.text_join (by first | assumption | is_list | exact News.isList (by k_asm) (by k_mem)) ktC (by omega) ?_); intro x' t' k' hx')))
local macro_rules | `(tactic| walk_at "exec For Name Name cons nil") => `(tactic| (k_here; (with_reducible show wpAny _ _ (exec (PySem.Stmt.For _ _ (PySem.Stmt.Assign _ (PySem.Expr.BinOp _ _ _ _) _ :: _) _ _) _) _ _ _); k_dflt (refine' Mine.loop1 ?k1 ?k2 ?k3 ?k4 ?k5 rfl ?k6 ?k7 ?k8 ?k9 ?k10 ?k11 ?k12 ?_; (case k1 => k_asm); (case k2 => k_asm); (case k3 => k_asm); (case k4 => k_asm); (case k5 => k_asm); (case k6 => k_mem); (case k7 => assumption); (case k8 => k_mem); (case k9 => assumption); (case k10 => exact rfl); (case k11 => (refine Mine.bound1 ?kx ?km; (case kx => assumption); (case km => (rw [List.length_map, List.length_take]; exact Nat.min_le_left _ _)))); (case k12 => passes_own); k_whole); intro m1 t1 h1 tk1 F1 e1 y1 N1; (try dsimp only); k_dflt (((refine' Mine.after1c (by rfl) ?a1 ?a2 ?a3 ?a4 ?a5 ?a6 ?a7 ?a8 ?a9 ?a10 ?a11 ?a12 ?a13 ?a14 ?a15 ?a16 e1 ?a17 ?a18 ?_))); (case a1 => k_asm); (case a2 => k_asm); (case a3 => k_asm); (case a4 => k_asm); (case a5 => k_asm); (case a6 => k_asm); (case a7 => assumption); (case a8 => (k_dflt k_mem)); (case a9 => (k_dflt k_mem)); (case a10 => (k_dflt k_mem)); (case a11 => omega); (case a12 => omega); (case a13 => assumption); (case a14 => assumption); (case a15 => (rw [List.length_map, List.length_take]; exact Nat.min_le_left _ _)); (case a16 => (first | assumption | omega)); (case a17 => (exact (y1 _ (by decide +kernel)).trans rfl)); (case a18 => (k_dflt passes_own)); intro m2 ps2 h2 tk2 F2 N2; (try dsimp only)))
theorem PySem.Challenge.cw_ny0037_01_holds : PySem.Challenge.rw_ny0037_01.Holds := by
  exact Mine.hd (by w_strict (k_with_none; k_go0; (all_goals try k_fold); k_steps))
