import PyProof.Rows.All
import Wide.All
import OpenK.AllK
import Wide.FinOn
import PySem.Challenge.RW_ik0170_01
open PySem PySem.W PyProof.Rows
set_option Elab.async false
set_option maxRecDepth 100000
namespace Mine
set_option maxRecDepth 100000 in
set_option maxHeartbeats 8000000 in
open_top hd for PySem.Challenge.rw_ik0170_01
end Mine
namespace Mine
open PySem.Calls
theorem lk_contains : typeLookup (.type "list") "__contains__" = pure (some (.builtin "list.__contains__")) := by rw [typeLookup_type, builtinLookup_eq_fast]; kernel_rfl
theorem ty_contains : typeOf (.builtin "list.__contains__") = pure (.type "wrapper_descriptor") := by kernel_rfl
theorem slot_wd_get : Slot "wrapper_descriptor" "__get__" "wrapper_descriptor.__get__" :=
  .of (owner := "wrapper_descriptor") (n := "__get__") (by rw [typeLookup_type, builtinLookup_eq_fast]; kernel_rfl) (by decide +kernel) (by decide +kernel) (by decide +kernel)
    (by first | exact .inl (by decide +kernel) | exact .inr (by decide +kernel)) (by rw [isSubtype_type]; kernel_rfl)
theorem wd_no_set : typeLookup (.type "wrapper_descriptor") "__set__" = pure none := by rw [typeLookup_type, builtinLookup_eq_fast]; kernel_rfl
theorem wd_no_delete : typeLookup (.type "wrapper_descriptor") "__delete__" = pure none := by rw [typeLookup_type, builtinLookup_eq_fast]; kernel_rfl
theorem entry_wd_get : entryFor table "wrapper_descriptor.__get__" = some Builtin.«wrapper_descriptor.__get__» := entryFor_of_tree (by kernel_rfl)
theorem args_wd_get (a b c : Value) : argsOk "wrapper_descriptor.__get__" ⟨[a, b, c], []⟩ := by unfold argsOk; kernel_rfl
theorem owner_contains : (".".intercalate ("list.__contains__".cutAt '.').dropLast) = "list" := by
  have e0 : "list.__contains__".cutAt '.' = ["list", "__contains__"] := by first | rfl | decide +kernel
  rw [e0]; decide +kernel
theorem sub_list_owner : isSubtype (.type "list") (.type (".".intercalate ("list.__contains__".cutAt '.').dropLast)) = pure true := by
  rw [owner_contains, isSubtype_type]; kernel_rfl
abbrev mwObj (ta : Addr) : Obj := { cls := .type "method-wrapper", data := .fields #[.builtin "list.__contains__", .ref ta] }
section
variable {prog : Program} {w : World} {A : Around} {E : Value → Shared → Prop} {h : Heap} {g : Array GenState} {d : Drawn} {t : Nat} {os : OsState} {a : Addr} {xs : Array Value} {k : Nat}

theorem wd_get {R : Result → Shared → Prop} (hx : h.get? a = some (listOf xs k)) (hq : R (.ok (.ret (.ref h.objs.size))) ⟨h.push (mwObj a), g, d, t, os⟩) :
    codeAny (model prog w) A (.call (.builtin "wrapper_descriptor.__get__") ⟨[.builtin "list.__contains__", .ref a, .type "list"], []⟩) R ⟨h, g, d, t, os⟩ := by
  have hT : (⟨h, g, d, t, os⟩ : Shared).TypeIs (.ref a) "list" := ⟨_, hx, rfl⟩
  have hT5 : (⟨h, g, d, t, os⟩ : Shared).TypeIs (.builtin "list.__contains__") "wrapper_descriptor" := ty_contains
  have f8 := sub_list_owner
  refine codeAny_call_builtin slot_wd_get.plain entry_wd_get (slot_wd_get.check _ _ _ _ _ _ _ _ hT5 (args_wd_get _ _ _) ?_)
  repeat (any_goals (first | assumption | wp_step))

theorem ga_entry {tk : Tok} {Q : Fin → Shared → Prop} (hx : h.get? a = some (listOf xs k)) (hq : Q (.done (.ret (.ref h.objs.size))) ⟨h.push (mwObj a), g, d, t, os⟩) :
    wpAny (model prog w) A (Builtin.«object.__getattribute__» ⟨[.ref a, .str "__contains__" tk], []⟩) Q E ⟨h, g, d, t, os⟩ := by
  have hT : (⟨h, g, d, t, os⟩ : Shared).TypeIs (.ref a) "list" := ⟨_, hx, rfl⟩
  have hT5 : (⟨h, g, d, t, os⟩ : Shared).TypeIs (.builtin "list.__contains__") "wrapper_descriptor" := ty_contains
  have f4 := lk_contains
  have f5 := ty_contains
  have f6 := slot_wd_get.lookup
  have f7 := wd_no_set
  have f8 := wd_no_delete
  unfold Builtin.«object.__getattribute__»
  repeat (any_goals (first | assumption | wp_step))
  refine wd_get hx ?_
  repeat (any_goals (first | assumption | wp_step))

theorem getAttr_contains {Q : Value → Shared → Prop} (hx : h.get? a = some (listOf xs k)) (hq : Q (.ref h.objs.size) ⟨h.push (mwObj a), g, d, t + 1, os⟩) :
    wpAny (model prog w) A (getAttr (.ref a) "__contains__" true) Q E ⟨h, g, d, t, os⟩ := by
  have hT : ∀ tk', (⟨h, g, d, tk', os⟩ : Shared).TypeIs (.ref a) "list" := fun _ => ⟨_, hx, rfl⟩
  have f3 := F.slot_list_getattribute.lookup
  have f4 := F.slot_list_getattribute.bind (.ref a)
  have f5 := am_list_getattr_none
  unfold getAttr getAttrBy
  repeat (any_goals (first | assumption | exact hT _ | wp_step))
  refine codeAny_call_builtin F.slot_list_getattribute.plain F.entry_list_ga (F.slot_list_getattribute.check _ _ _ _ _ _ _ _ (hT _) (F.args_list_getattribute_2 _ _) (ga_entry hx ?_))
  repeat (any_goals (first | assumption | wp_step))
end
end Mine
namespace Mine
section
variable {prog : Program} {w : World} {A : Around} {E : Value → Shared → Prop} {s : Shared} {h₀ : Heap} {L : Addr} {m : Str → Option Value} {news : List (Addr × Obj)}
theorem k_contains {ta : Addr} {xs : Array Value} {k : Nat} {Q : Value → Shared → Prop} (F : Fr h₀ L s.heap m) (N : News h₀ L s.heap news) (hm : s.heap.get? ta = some (listOf xs k))
    (h : ∀ q h' tk, Fr h₀ L h' m → News h₀ L h' ((q, mwObj ta) :: news) → (∀ p ∈ news, p.1 < q) → Q (.ref q) { s with heap := h', toks := tk }) :
    wpAny (model prog w) A (getAttr (.ref ta) "__contains__" true) Q E s := by
  obtain ⟨hp, g, d, t, os⟩ := s
  exact getAttr_contains hm (h _ _ _ (F.push _) (News.push F N _) fun p hp => Heap.lt_size (N p hp).1)
abbrev rgObj (n : Int) (t u v : Tok) : Obj := { cls := .type "range", data := .fields #[.int 0 t, .int n u, .int 1 v] }
abbrev riObj (x left : Int) : Obj := { cls := .type "range_iterator", data := .fields #[.int x 0, .int left 0, .int 1 0] }
theorem k_iter_range {ra : Addr} {n : Nat} {t u v : Tok} {Q : Value → Shared → Prop} (F : Fr h₀ L s.heap m) (N : News h₀ L s.heap news) (hm : s.heap.get? ra = some (rgObj n t u v)) (hn : n < 1000)
    (h : ∀ I h', Fr h₀ L h' m → News h₀ L h' ((I, riObj 0 n) :: news) → (∀ p ∈ news, p.1 < I) → Q (.ref I) { s with heap := h' }) :
    wpAny (model prog w) A (call (.builtin "iter") [.ref ra]) Q E s := by
  refine Calls.call_function_entry (by decide +kernel) (by decide +kernel) kdk_entry_iter (kdk_args_iter _) ?_
  unfold Builtin.«iter»
  refine wpAny_bind (m := someArgs "iter" 1 2 _) (wpAny_of_eq (a := [Value.ref ra]) (by first | rfl | kernel_rfl!) ?_)
  show wpAny _ _ (pyIter (.ref ra) >>= _) _ _ _
  have hz : Builtin.Range.rangeSize 0 (n : Int) 1 = (n : Int) := by rw [rangeSize_nat]; omega
  refine wpAny_bind (wpAny_pyIter_range hm (small_one (by omega) (by omega) (by omega) (by omega)) ?_)
  rw [hz]
  exact wpAny_pure ⟨_, rfl, h _ _ (F.push _) (News.push F N _ rfl) (fun q hq => Heap.lt_size (N q hq).1)⟩
end
theorem if_so {α : Type} {M : Model} {A : Around} {E : Value → Shared → Prop} {s : Shared} {c : Prop} [Decidable c] {a b : Sem α} {Q : α → Shared → Prop} (hc : c) (h : wpAny M A a Q E s) : wpAny M A (if c then a else b) Q E s := by rw [if_pos hc]; exact h
theorem check_contains (a b : Value) : checkBoundCall "list.__contains__" ⟨[a, b], []⟩ = pure () := by first | kernel_rfl | rfl
theorem plain_contains : plainId "list.__contains__" = true := by decide +kernel
section
variable {prog : Program} {w : World} {A : Around} {E : Value → Shared → Prop} {s : Shared} {h₀ : Heap} {L : Addr} {m : Str → Option Value} {news : List (Addr × Obj)}
theorem k_call_mw {q ta : Addr} {vs : List Value} {ns : List Int} {c : Nat} {k : Int} {t : Tok} {Q : Value → Shared → Prop} (N : News h₀ L s.heap news) (hq : (q, mwObj ta) ∈ news) (hm : s.heap.get? ta = some (listOf vs.toArray c)) (hi : IntsAre vs ns)
    (h : Q (.bool (ns.any (· == k))) s) : wpAny (model prog w) A (call (.ref q) [.int k t]) Q E s := by
  refine wpAny_call (codeAny_of_tree ?_)
  show wpAny _ A.in1 (callAny (.ref q) ⟨[.int k t], []⟩) _ _ s
  simp only [callAny]
  refine wpAny_bind (wpAny_load (N.get hq) ?_)
  simp only [mwObj, show (Value.type "method-wrapper" == Value.type "method" || Value.type "method-wrapper" == Value.type "builtin_function_or_method" || Value.type "method-wrapper" == Value.type "method-wrapper") = true by decide, if_true]
  refine if_so (c := (Value.type "method-wrapper" != Value.type "method") = true) (by decide) ?_
  refine wpAny_bind (wpAny_of_eq (a := ()) (check_contains _ _) ?_)
  refine wpAny_bind (wpAny_pure (wpAny_pure ?_))
  refine ⟨plainId_quiet plain_contains _, codeAny_builtin F.entry_list_contains ?_⟩
  rw [Around.under_plainId plain_contains _]
  refine SeqInW.list_containsW ta vs.toArray c none #[] (.int k t) (isInt k) (fun y hy => eq_isInt k t hi y (by simpa using hy)) prog w A _ s ⟨hm, ?_⟩
  show Q _ s
  rw [← Array.any_toList, show vs.toArray.toList = vs from rfl, any_isInt k hi]; exact h

theorem callWith_mw0 {M : Model} {pos : Pos} {q ta : Addr} {first : List Value} {args : List (Bool × Sem Value)} {Q : Value → Shared → Prop} (hplain : args.any (·.1) = false)
    (h : wpAny M A (evalArgs (.ref q) true args []) (fun x s₁ => s₁.heap.get? q = some (mwObj ta) ∧ wpAny M A (call (.ref q) (first ++ x.pos) x.kw) Q E s₁) E s) : wpAny M A (callWith pos (.ref q) first args []) Q E s := by
  unfold callWith
  refine wpAny_bind (wpAny_holding (wpAny_mono h (fun x s₁ h₁ => wpAny_bind (wpAny_standAt ?_)) fun _ _ x => x))
  obtain ⟨ho, hcall⟩ := h₁
  simp only [hplain, List.any_nil, Bool.or_false]
  refine wpAny_bind (m := keeperOf (.ref q)) ?_
  unfold keeperOf
  refine wpAny_bind (wpAny_load ho ?_)
  simp only [show (Value.type "method-wrapper" != Value.type "method") = true by decide, show (Value.type "method-wrapper" == Value.type "builtin_function_or_method" || Value.type "method-wrapper" == Value.type "method-wrapper") = true by decide, if_true]
  refine wpAny_pure ?_
  exact wpAny_bind (wpAny_mono hcall (fun r s₂ hr => wpAny_bind (wpAny_holding (wpAny_point (wpAny_pure hr)))) fun _ _ x => x)
theorem callWith_mw {M : Model} {pos : Pos} {q ta : Addr} {first : List Value} {env : Env} {e : Expr} {rest : List Expr} {Q : Value → Shared → Prop} (_N : News h₀ L s.heap news) (_hm : (q, mwObj ta) ∈ news)
    (h : wpAny M A (spliced (backTo pos (starEach (e :: rest) env))) (fun vs s₁ => s₁.heap.get? q = some (mwObj ta) ∧ wpAny M A (call (.ref q) (first ++ vs)) Q E s₁) E s)
    (he : starEach (e :: rest) env = (false, eval e env) :: starEach rest env := by rfl) (hplain : (backTo pos (starEach rest env)).any (·.1) = false := by rfl) :
    wpAny M A (callWith pos (.ref q) first (backTo pos (starEach (e :: rest) env)) []) Q E s := by
  rw [he] at h ⊢
  refine callWith_mw0 (ta := ta) (by show (false || (backTo pos (starEach rest env)).any (·.1)) = false; rw [hplain]; rfl) ?_
  exact Calls.evalArgs_plain h
theorem mw_at {q ta : Addr} {P : Prop} {h : Heap} (N : News h₀ L h news) (hm : (q, mwObj ta) ∈ news) (k : P) : h.get? q = some (mwObj ta) ∧ P := ⟨N.get hm, k⟩

theorem k_next_item {I : Addr} {x left : Int} {news' : List (Addr × Obj)} {Q : Value → Shared → Prop} (F : Fr h₀ L s.heap m) (N : News h₀ L s.heap news) (U : Upd I (riObj x left) (riObj (x + 1) (left - 1)) news news') (hl : 0 < left)
    (h : ∀ h' tk t, Fr h₀ L h' m → News h₀ L h' news' → Q (.int x t) { s with heap := h', toks := tk }) :
    wpAny (model prog w) A (call (.builtin "next") [.ref I]) Q E s := by
  obtain ⟨pre, post, rfl, rfl, a, b⟩ := U.split
  have z := N (I, riObj x left) (List.mem_append.mpr (.inr (.head _)))
  have hT : s.TypeIs (.ref I) "range_iterator" := ⟨_, z.1, rfl⟩
  refine Calls.call_function_entry (by decide +kernel) (by decide +kernel) kdk_entry_next (kdk_args_next _) ?_
  unfold Builtin.«next»
  refine wpAny_bind (m := someArgs "next" 1 2 _) (wpAny_of_eq (a := [Value.ref I]) (by first | rfl | kernel_rfl!) ?_)
  dsimp only
  refine wpAny_bind (wpAny_specialOf (name := Str.ofString "__next__") hT PySem.F.slot_range_iterator_next.lookup ?_)
  refine wpAny_ite_split (fun hab => absurd hab (by decide)) (fun _ => ?_)
  refine wpAny_bind (wpAny_callSpecial?_slot (name := Str.ofString "__next__") hT PySem.F.slot_range_iterator_next
    (call_meets PySem.F.slot_range_iterator_next hT PySem.F.entry_range_iterator_next (PySem.F.args_range_iterator_next_1 _) (AutoRange.range_iterator___next___range_iterator_1 I x left 1 (by omega)) ⟨z.1, ?_⟩))
  refine wpAny_pure ⟨_, rfl, h _ _ _ (F.change ((Heap.SameBut.update ..).trans (Heap.SameBut.update ..)) z.2.1 z.2.2) (news_set N a b ((Heap.SameBut.update ..).trans (Heap.SameBut.update ..)) (Heap.get?_update_self _ (Heap.get?_update_self _ z.1 rfl) rfl))⟩

theorem k_next_end {I : Addr} {x left : Int} {Q : Value → Shared → Prop} (hh : A.handled = none) (N : News h₀ L s.heap news) (hm : (I, riObj x left) ∈ news) (hl : left ≤ 0)
    (h : ∀ h' e, Heap.MadeExc s.heap h' e "StopIteration" [] → E (.ref e) { s with heap := h' }) :
    wpAny (model prog w) A (call (.builtin "next") [.ref I]) Q E s := by
  have z := N _ hm
  have hit := z.1
  have hT : s.TypeIs (.ref I) "range_iterator" := ⟨_, z.1, rfl⟩
  refine Calls.call_function_entry (by decide +kernel) (by decide +kernel) kdk_entry_next (kdk_args_next _) ?_
  unfold Builtin.«next»
  refine wpAny_bind (m := someArgs "next" 1 2 _) (wpAny_of_eq (a := [Value.ref I]) (by first | rfl | kernel_rfl!) ?_)
  dsimp only
  refine wpAny_bind (wpAny_specialOf (name := Str.ofString "__next__") hT PySem.F.slot_range_iterator_next.lookup ?_)
  refine wpAny_ite_split (fun hab => absurd hab (by decide)) (fun _ => ?_)
  refine wpAny_bind (wpAny_callSpecial?_slot (name := Str.ofString "__next__") hT PySem.F.slot_range_iterator_next
    (wpAny_call_entry PySem.F.slot_range_iterator_next hT PySem.F.entry_range_iterator_next ?_ (PySem.F.args_range_iterator_next_1 _)))
  show wpAny _ _ (field (.ref I) 0 >>= _) _ _ s
  refine wpAny_bind (wpAny_field hit rfl (x := rawInt x) rfl ?_)
  show wpAny _ _ (field (.ref I) 1 >>= _) _ _ s
  refine wpAny_bind (wpAny_field hit rfl (x := rawInt left) rfl ?_)
  show wpAny _ _ (field (.ref I) 2 >>= _) _ _ s
  refine wpAny_bind (wpAny_field hit rfl (x := rawInt 1) rfl ?_)
  show wpAny _ _ (if left ≤ 0 then _ else _) _ _ s
  rw [if_pos hl]
  refine wpAny_bind (wpAny_rule ?_)
  refine wpAny_bind ?_
  show wpAny _ _ (newExc (.type "StopIteration") [] >>= _) _ _ _
  refine wpAny_bind ?_
  simp only [newExc, newTuple]
  refine wpAny_bind (wpAny_newObj_type ?_ (by size_fits))
  refine wpAny_bind (m := firstArgMember _ _) (wpAny_of_eq (a := Value.none) (by first | rfl | (simp only [firstArgMember]; rfl)) ?_)
  refine wpAny_newObj_type ?_ (by size_fits)
  simp only [raiseNew]
  refine wpAny_bind (wpAny_handled ?_)
  first | rw [show A.in1.handled = none from hh] | rw [hh] | rw [show A.in1.in1.handled = none from hh]
  refine wpAny_bind (wpAny_pure (wpAny_throw ?_))
  have hsz : ∀ (h : Heap) (o : Obj), (h.push o).objs.size = h.objs.size + 1 := fun h o => Heap.size_push ..
  refine h _ _ ⟨fun b o e => Heap.get?_push_of_some _ (Heap.get?_push_of_some _ e), ?_, s.heap.objs.size, Heap.get?_push_size _ rfl, ?_, Heap.get?_push_of_some _ (Heap.get?_push_size _ rfl)⟩
  · rw [hsz]; exact Heap.get?_none_of_le (Nat.le_succ _)
  · exact Heap.get?_none_of_le (Nat.le_refl _)

def WEnd (I : Nat → Shared → Prop) (n : Nat) (s : Shared) : Prop := ∃ m, m < n ∧ I m s
theorem while_true {env : Env} {k : Nat} {p pos : Pos} {body : List Stmt} {Q : Flow → Shared → Prop} (I : Nat → Shared → Prop)
    (turn : ∀ n s, I n s → wpAny (model prog w) A (execs body env) (fun f s₃ => match f with | .next => WEnd I n s₃ | .cont => WEnd I n s₃ | .brk => Q .next s₃ | .ret v => Q (.ret v) s₃) E s)
    (n : Nat) (h : I n s) (hE : PassesOwn (model prog w) A env E := by passes_own) : wpAny (model prog w) A (exec (.While (.Constant (.bool true) k p) body [] pos) env) Q E s := by
  refine wpAny_While (codeAny_whileLoop I (fun n s hI => ?_) n h)
  refine wpAny_isTrue_value (wpAny_Constant_bool (wpAny_truthy_bool ?_))
  show wpAny _ _ (execs body env) _ _ _
  refine wpAny_mono (wpAny_passesOwn hE (turn n s hI)) (fun f s₃ h₃ => ?_) fun _ _ e => e
  cases f <;> exact h₃

theorem leave_stop {A : Around} {E : Value → Shared → Prop} {s' : Shared} {base g h : Heap} {outer : List Env} {L a e : Addr} {m : Str → Option Value} {name : Str} {scope : Scope} {cd cls : Value} {M : Model} {vs : List Value} {Q : Unit → Shared → Prop}
    (K : Below A base outer g) (hx : Heap.MadeExcOf h s'.heap e cls vs) (F : Fr g L h m)
    (hQ : ∀ h' ob, (∀ b o, b ∉ L :: outer.filterMap (·.frame) → h.get? b = some o → h'.get? b = some o) → h.UpToSlots h' → h'.get? e = some ob → ob.cls = cls → Q () { s' with heap := h' }) (hk : scope.kind = .function := by rfl) :
    wpAny M (A.deeper (envOf name scope L a cd)) (leaving (envOf name scope L a cd) (.ref e)) Q E s' := by
  have K' := K.push (name := name) (a := a) (cd := cd) F hk
  have hin : ∀ env ∈ (envOf name scope L a cd :: outer), ∀ b, env.frame = some b → b ∈ (envOf name scope L a cd :: outer).filterMap (·.frame) := fun env he b hb => List.mem_filterMap.mpr ⟨env, he, hb⟩
  refine wpAny_leaves_madeW K'.stack rfl (fun b o q => of_hideAll ((envOf name scope L a cd :: outer).filterMap (·.frame)) q) (funFrames_hide K'.frames hin) hx fun h' t x1 x2 x3 x4 => ?_
  obtain ⟨ob, hob, hobc⟩ := (x1 : Heap.FlyingW _ _ _ _ _ _).there
  refine hQ h' ob (fun b o hb q => x1.1 b o (hideAll_get _ q hb)) ((Heap.UpToSlots.of_keeps hx.keeps).trans x4) hob hobc

theorem stop_it {A : Around} {E : Value → Shared → Prop} {s : Shared} {M : Model} {e : Addr} {ob : Obj} {Q : Option Value → Shared → Prop} (he : s.heap.get? e = some ob) (hc : ob.cls = .type "StopIteration") (h : Q none s) : OwitStop M A Q E (.ref e) s := by
  unfold OwitStop
  refine wpAny_isInstance (T := "StopIteration") (b := true) ⟨ob, he, hc⟩ owsi_facts.sub ?_
  show (if true = true then Q none s else E (.ref e) s)
  rw [if_pos rfl]; exact h
end
end Mine
namespace Mine
local macro_rules | `(tactic| walk_at "call builtin:next") => `(tactic| (k_here; (with_reducible show wpAny _ _ (call (Value.builtin "next") [Value.ref _]) _ _ _); k_dflt (refine' k_next_item ?k1 ?k2 ?k3 ?k4 ?_; (case k1 => k_asm); (case k2 => k_asm); (case k3 => k_upd); (case k4 => assumption); k_whole); intro h' tk' t' F' N'; (try k_sweep)))
local macro_rules | `(tactic| walk_at "call builtin:next") => `(tactic| (k_here; (with_reducible show wpAny _ _ (call (Value.builtin "next") [Value.ref _]) _ _ _); k_dflt (refine' k_next_end ?k0 ?k1 ?k2 ?k3 ?_; (case k0 => exact rfl); (case k1 => k_asm); (case k2 => k_mem); (case k3 => assumption); k_whole); intro h' e' X'))
local macro_rules | `(tactic| walk_at "callWith ref") => `(tactic| (k_here; k_dflt (refine' callWith_mw ?k1 ?k2 ?_; (case k1 => k_asm); (case k2 => k_mem); k_whole)))
local macro_rules | `(tactic| walk_at "And") => `(tactic| ((with_reducible show Heap.get? _ _ = some _ ∧ _); k_dflt (refine' mw_at ?k1 ?k2 ?_; (case k1 => assumption); (case k2 => k_mem)); (try dsimp only [List.nil_append, List.cons_append])))
local macro_rules | `(tactic| walk_at "call ref") => `(tactic| (k_here; (with_reducible show wpAny _ _ (call (Value.ref _) _ _) _ _ _); k_dflt (refine' k_call_mw ?k1 ?k2 ?k3 ?k4 ?_; (case k1 => k_asm); (case k2 => k_mem); (case k3 => exact Fr.keep (by assumption) _ _ (by assumption)); (case k4 => assumption); k_whole)))
theorem lookup_one (y k : Str) (v : Value) : List.lookup y [(k, v)] = if y = k then some v else none := by
  simp only [List.lookup]
  by_cases h : y = k
  · subst h; simp
  · rw [if_neg h, beq_eq_false_iff_ne.mpr h]
theorem item_twice (y : Str) (a b c : Option Value) : (if y = Str.ofString "item" then a else if y = Str.ofString "item" then b else c) = if y = Str.ofString "item" then a else c := by
  by_cases h : y = Str.ofString "item" <;> simp [h]
abbrev ffObj (d q I : Addr) : Obj := { cls := .ref 47, dict := some d, slots := #[some (.ref q), some (.ref I)] }
abbrev envA (nm : Str) (names : List (Str × NameKind)) (more : List (Str × Const)) (L fa : Addr) (cd : Value) : Env := envOfC nm { kind := .function, names := names, isGenerator := false, isCoroutine := false, more := more } L fa cd
abbrev envB (nm : Str) (names : List (Str × NameKind)) (more : List (Str × Const)) (L fa : Addr) (cd : Value) : Env := envOf nm { kind := .function, names := names, isGenerator := false, isCoroutine := false, more := more } L fa cd
abbrev lookL : List Str := [Str.ofString "filterfalse"]
set_option maxHeartbeats 8000000 in
theorem next_one (w : World) (h₀ g : Heap) (s₁ : Shared) (h : Heap) (tk : Nat) (L' : Addr) (m m₀ : Str → Option Value)
  (mg mb : Str → Option Value) (mean : ExcName → Option Value) (nm nm2 : Str) (names names2 : List (Str × NameKind)) (more more2 : List (Str × Const)) (L fa f2 : Addr) (cd cd2 : Value)
  (T : Top hd.view_39 (looseW hd.view_39 lookL) mean mg mb g)
  (B : Below (callerA.deeper (envA nm names more L fa cd)) h₀ [envA nm names more L fa cd] g)
  (FG : Fr h₀ L g m₀) (F : Fr g L' h m) (ta q d x I D : Addr) (c : Nat) (vs : List Value) (ns : List Int) (oD : Obj) (i left : Int) (hta : g.get? ta = some (listOf vs.toArray c))
  (N : News g L' h [(D, oD), (I, riObj i left), (x, ffObj d q I), (d, dictOf [] 0), (q, mwObj ta)])
  (hi : IntsAre vs ns) (l3 : @LT.lt Nat _ q d) (l4 : @LT.lt Nat _ d x) (l5 : @LT.lt Nat _ x I) (l6 : @LT.lt Nat _ I D)
  (hleft : 0 ≤ left) (Q : Option Value → Shared → Prop) (E : Value → Shared → Prop)
  (hItem : ∀ (j : Int) t h' tk', i ≤ j → j < i + left → (∀ z : Int, i ≤ z → z < j → z ∈ ns) → j ∉ ns → Fr g L' h' m → News g L' h' [(D, oD), (I, riObj (j + 1) (i + left - (j + 1))), (x, ffObj d q I), (d, dictOf [] 0), (q, mwObj ta)] → Q (some (.int j t)) { s₁ with heap := h', toks := tk' })
  (hStop : (∀ z : Int, i ≤ z → z < i + left → z ∈ ns) → ∀ h' tk', (∀ b o, b ≠ L → g.get? b = some o → h'.get? b = some o) → h'.get? D = some oD → D ≠ L → g.get? D = none → h'.Ns L m₀ → Q none { s₁ with heap := h', toks := tk' }) : (hd.heap_39 w.params).In g → 
  wpAny (model Challenge.rw_ik0170_01.row.prog w) ((callerA.deeper (envA nm names more L fa cd)).deeper (envB nm2 names2 more2 L' f2 cd2)).in1.in1
    (pyNext (.ref x)) Q E { s₁ with heap := h, toks := tk } := by
  k_fill
  intro KX
  w_on
  k_dflt (refine' owit_next ?F ?X ?I ?hs ?hf ?_; (case F => k_asm); (case X => k_asm); (case I => k_inst); (case hs => k_is); (case hf => k_is); k_whole)
  iterate 9 (first | (k_unfold; (try dsimp only)) | (k_end; wrow_close) | walk1 | (dsimp only; walk1) | (leave1; walk_say "STEP leave1"; try dsimp only) | fail "no step")
  rename_i gN LN h0N FGN BN XN TN hN FN NN
  have hta' : gN.get? ta = some (listOf vs.toArray c) := FGN.keep _ _ hta
  have hLg : ∃ oL, g.get? L = some oL := by obtain ⟨o, _, _, e, _⟩ := FG.ns; exact ⟨o, e⟩
  refine while_true (fun k st => ∃ (hh : Heap) (tt : Nat) (it : Option Value) (j lf : Int), st = { s₁ with heap := hh, toks := tt } ∧ Fr gN LN hh (fun y => if y = Str.ofString "item" then it else if y = Str.ofString "func" then some (.ref q) else if y = Str.ofString "self" then some (.ref x) else none)
    ∧ News gN LN hh [(D, oD), (I, riObj j lf), (x, ffObj d q I), (d, dictOf [] 0), (q, mwObj ta)]
    ∧ i ≤ j ∧ j + lf = i + left ∧ 0 ≤ lf ∧ (∀ z : Int, i ≤ z → z < j → z ∈ ns) ∧ k = lf.toNat) ?turn left.toNat ?start
  case start =>
    refine ⟨hN, _, none, i, left, rfl, ?_, NN, Int.le_refl _, rfl, hleft, fun z h1 h2 => absurd h2 (by omega), rfl⟩
    have e : ∀ {mm : Str → Option Value}, Fr gN LN hN mm → (∀ y, mm y = if y = Str.ofString "item" then none else if y = Str.ofString "func" then some (.ref q) else if y = Str.ofString "self" then some (.ref x) else none) → Fr gN LN hN (fun y => if y = Str.ofString "item" then (none : Option Value) else if y = Str.ofString "func" then some (.ref q) else if y = Str.ofString "self" then some (.ref x) else none) := by
      intro mm Fm hm
      have : mm = _ := funext hm
      rw [← this]; exact Fm
    refine e FN fun y => ?_
    with_unfolding_all show (if y = Str.ofString "func" then some (Value.ref q) else List.lookup y [(Str.ofString "self", Value.ref x)]) = _
    rw [lookup_one]
    by_cases h1 : y = Str.ofString "item"
    · subst h1; rfl
    · simp only [if_neg h1]
  case turn =>
    rintro k st ⟨hh, tt, it, j, lf, rfl, F1, N1, hij, hjl, hlf, hz, rfl⟩
    by_cases hpos : 0 < lf
    · repeat' (first | (k_unfold; (try dsimp only)) | (k_end; wrow_close) | walk1 | (dsimp only; walk1) | (leave1; walk_say "STEP leave1"; try dsimp only) | fail "no step")
      · rename_i h2 tk2 t2 h3 F3 N3 ha
        have hm : j ∈ ns := by
          obtain ⟨y, hy, hyy⟩ := List.any_eq_true.mp ha
          rw [beq_iff_eq] at hyy; rw [← hyy]; exact hy
        refine ⟨(lf - 1).toNat, by omega, h3, _, some (Value.int j t2), j + 1, lf - 1, rfl, ?_, N3, by omega, by omega, by omega, fun z h1 h2 => ?_, rfl⟩
        · have e : (fun y => if y = Str.ofString "item" then some (Value.int j t2) else if y = Str.ofString "func" then some (.ref q) else if y = Str.ofString "self" then some (.ref x) else none) = _ := funext fun y => (item_twice y (some (Value.int j t2)) it _).symm
          rw [e]; exact F3
        · by_cases hzj : z = j
          · rw [hzj]; exact hm
          · exact hz z h1 (by omega)
      · rename_i h2 tk2 t2 h3 F3 N3 ha kF kN TT kX
        refine hItem j t2 _ _ hij (by omega) hz (fun hm => ?_) kF ?_
        · have : (ns.any fun x => x == j) = true := List.any_eq_true.mpr ⟨j, hm, beq_self_eq_true j⟩
          rw [this] at ha; cases ha
        · have e : i + left - (j + 1) = lf - 1 := by omega
          rw [e]; exact kN
    · have hle : lf ≤ 0 := by omega
      iterate 12 (first | (k_unfold; (try dsimp only)) | (k_end; wrow_close) | walk1 | (dsimp only; walk1) | (leave1; walk_say "STEP leave1"; try dsimp only) | fail "no step")
      rename_i hX eX hmX
      have hD := N (D, oD) (.head _)
      have hD1 := N1 (D, oD) (.head _)
      have hDL : D ≠ L := fun e => by obtain ⟨oL, eL⟩ := hLg; rw [← e, hD.2.2] at eL; cases eL
      refine leave_stop BN (Heap.MadeExc.of hmX) F1 (fun h2 ob hk hu he hc => stop_it he hc (hStop (fun z h1 h3 => hz z h1 (by omega)) _ _ (fun b o hb e => hk b o ?_ (F1.keep b o (FGN.keep b o e))) (hk D oD ?_ hD1.1) hDL hD.2.2 (hu.ns (FG.ns.at' fun o e => F1.keep _ _ (FGN.keep _ _ e)))))
      · show b ∉ [LN, L', L]
        intro hm
        rcases List.mem_cons.mp hm with e1 | hm
        · exact absurd (Nat.lt_of_lt_of_le (Heap.lt_size (FGN.keep b o e)) F1.above) (by rw [e1]; exact Nat.lt_irrefl _)
        · rcases List.mem_cons.mp hm with e1 | hm
          · exact absurd (Nat.lt_of_lt_of_le (Heap.lt_size e) F.above) (by rw [e1]; exact Nat.lt_irrefl _)
          · exact hb (List.mem_singleton.mp hm)
      · show D ∉ [LN, L', L]
        intro hm
        rcases List.mem_cons.mp hm with e1 | hm
        · exact hD1.2.1 e1
        · rcases List.mem_cons.mp hm with e1 | hm
          · exact hD.2.1 e1
          · exact hDL (List.mem_singleton.mp hm)
end Mine
namespace Mine
set_option maxHeartbeats 8000000 in
theorem iter_self (w : World) (h₀ g : Heap) (s₁ : Shared) (h : Heap) (tk : Nat) (L' : Addr) (m : Str → Option Value)
  (mg mb : Str → Option Value) (mean : ExcName → Option Value) (nm nm2 : Str) (names names2 : List (Str × NameKind)) (more more2 : List (Str × Const)) (L fa f2 : Addr) (cd cd2 : Value)
  (T : Top hd.view_39 (looseW hd.view_39 lookL) mean mg mb g)
  (B : Below (callerA.deeper (envA nm names more L fa cd)) h₀ [envA nm names more L fa cd] g)
  (F : Fr g L' h m) (q d x I D : Addr) (oD oI : Obj)
  (N : News g L' h [(D, oD), (I, oI), (x, ffObj d q I), (d, dictOf [] 0), (q, oQ)])
  (Q : Value → Shared → Prop) (E : Value → Shared → Prop)
  (hQ : ∀ h' tk', Fr g L' h' m → News g L' h' [(D, oD), (I, oI), (x, ffObj d q I), (d, dictOf [] 0), (q, oQ)] → Q (.ref x) { s₁ with heap := h', toks := tk' }) : (hd.heap_39 w.params).In g → 
  wpAny (model Challenge.rw_ik0170_01.row.prog w) ((callerA.deeper (envA nm names more L fa cd)).deeper (envB nm2 names2 more2 L' f2 cd2)).in1.in1
    (pyIter (.ref x)) Q E { s₁ with heap := h, toks := tk } := by
  k_fill
  intro KX
  w_on
  k_dflt (refine' owit_iter ?F ?X ?I ?hs ?hf ?_; (case F => k_asm); (case X => k_asm); (case I => k_inst); (case hs => k_is); (case hf => k_is); k_whole)
  repeat' (first | (k_unfold; (try dsimp only)) | (k_end; wrow_close) | walk1 | (dsimp only; walk1) | (leave1; walk_say "STEP leave1"; try dsimp only) | fail "no step")
  apply hQ <;> assumption

section
variable {prog : Program} {w : World} {A₀ A : Around} {s : Shared} {base h₀ : Heap} {outer : List Env} {L : Addr} {m : Str → Option Value} {env : Env} {K : Frag} {R : Result → Shared → Prop}
theorem code_def0 {p : Program} {loose : List Str} {mean : ExcName → Option Value} {mg mb : Str → Option Value} {name qual : Str} {params : Arguments} {body : List Stmt} {scope : Scope} {dV kV doc pm cdv ct oc : Value} {an od : Option Addr} {osl : Array (Option Value)} {f : Addr} {args : Args} {binds : List (Str × Value)}
    (B : Below A₀ base outer h₀) (F : Fr h₀ L s.heap m) (X₀ : K.In h₀) (T : Top p loose mean mg mb h₀) (hA : A.frames = some (env :: outer)) (hf : env.frame = some L) (hke : env.scope.kind = .function)
    (ho : K.lookup f = some ⟨oc, od, .func (fnOf name qual params body scope dV kV doc pm an cdv ct), osl⟩) (hcd : codeIn K cdv qual = true) (hroom : A.depth < recursionLimit)
    (hbind : BindsTo s (fnOf name qual params body scope dV kV doc pm an cdv ct) args binds) (hloc : ∀ y ∈ binds, scope.names.lookup y.1 = some .local)
    (h : ∀ L' h₁, Fr s.heap L' h₁ (fun y => binds.reverse.lookup y) → Below A base (env :: outer) s.heap → K.In s.heap → Top p loose mean mg mb s.heap →
      wpAny (model prog w) (A.deeper (envOf qual scope L' f cdv)) (execs body (envOf qual scope L' f cdv))
        (fun fl s' => R (.ok (.ret (match fl with | .ret v => v | _ => .none))) s')
        (fun e s' => wpAny (model prog w) (A.deeper (envOf qual scope L' f cdv)) (leaving (envOf qual scope L' f cdv) e) (fun _ s'' => R (.error e) s'') (fun e' s'' => R (.error e') s'') s')
        { s with heap := h₁, toks := s.toks + binds.length })
    (hco : scope.isCoroutine = false) (hgen : scope.isGenerator = false) (hk : scope.kind = .function)
    (hcell : ∀ x ∈ scope.names, x.2 ≠ .cell) : codeAny (model prog w) A (.call (.ref f) args) R s := by
  obtain ⟨FG, BG, st, _⟩ := groundX (R := R) B F News.nil hA hf hke
  refine codeAny_call_def (fd := fnX name qual params body scope [] dV kV doc pm an cdv ct) (body := body) (binds := binds) hroom ((X₀.keeps F.keep) _ _ ho) rfl (T.nolimit.keeps F.keep) (codeRec_of (X₀.keeps F.keep) hcd) rfl hbind hcell hloc (fun h₁ hns hk₁ => ?_) hco hgen hk
  exact h s.heap.objs.size h₁ ⟨hns, hk₁, Nat.le_refl _⟩ BG (X₀.keeps st) (T.keeps st)
end
end Mine
namespace Mine
/-- the ints from i on, k of them, that are not in ns -/
def outs (ns : List Int) (i : Int) : Nat → List Int
  | 0 => []
  | k + 1 => if ns.any (· == i) then outs ns (i + 1) k else i :: outs ns (i + 1) k
theorem outs_succ (ns : List Int) (i : Int) (k : Nat) : outs ns i (k + 1) = if ns.any (· == i) then outs ns (i + 1) k else i :: outs ns (i + 1) k := rfl
theorem outs_skip (ns : List Int) : ∀ (k : Nat) (i : Int), (∀ z : Int, i ≤ z → z < i + k → z ∈ ns) → outs ns i k = []
  | 0, _, _ => rfl
  | k + 1, i, h => by
    have h1 : ns.any (· == i) = true := List.any_eq_true.mpr ⟨i, h i (Int.le_refl _) (by omega), beq_self_eq_true i⟩
    rw [outs_succ, if_pos h1]; exact outs_skip ns k (i + 1) fun z a b => h z (by omega) (by omega)
theorem outs_next (ns : List Int) : ∀ (k : Nat) (i j : Int), i ≤ j → j < i + k → (∀ z : Int, i ≤ z → z < j → z ∈ ns) → j ∉ ns → outs ns i k = j :: outs ns (j + 1) (i + k - (j + 1)).toNat
  | 0, i, j, h1, h2, _, _ => absurd h2 (by omega)
  | k + 1, i, j, h1, h2, hz, hj => by
    rw [outs_succ]
    by_cases e : i = j
    · subst e
      have h3 : ns.any (· == i) = false := by
        cases q : ns.any (· == i) with
        | false => rfl
        | true => obtain ⟨y, hy, hyy⟩ := List.any_eq_true.mp q; rw [beq_iff_eq] at hyy; subst hyy; exact absurd hy hj
      rw [h3, if_neg Bool.false_ne_true]
      have e2 : (i + ((k + 1 : Nat) : Int) - (i + 1)).toNat = k := by omega
      rw [e2]
    · have h3 : ns.any (· == i) = true := List.any_eq_true.mpr ⟨i, hz i (Int.le_refl _) (by omega), beq_self_eq_true i⟩
      rw [if_pos h3, outs_next ns k (i + 1) j (by omega) (by omega) (fun z a b => hz z (by omega) b) hj]
      have e2 : (i + 1 + (k : Int) - (j + 1)).toNat = (i + ((k + 1 : Nat) : Int) - (j + 1)).toNat := by omega
      rw [e2]
theorem outs_len (ns : List Int) : ∀ (k : Nat) (i : Int), (outs ns i k).length ≤ k
  | 0, _ => Nat.le_refl _
  | k + 1, i => by
    rw [outs_succ]; split
    · exact Nat.le_succ_of_le (outs_len ns k _)
    · rw [List.length_cons]; exact Nat.succ_le_succ (outs_len ns k _)

theorem no_len (w : World) : findIn (hd.heap_39 w.params) (.ref 47) (Str.ofString "__len__") = some none := by kernel_rfl
theorem no_hint (w : World) : findIn (hd.heap_39 w.params) (.ref 47) (Str.ofString "__length_hint__") = some none := by kernel_rfl
section
variable (w : World) (h₀ g : Heap) (s₁ : Shared) (L' : Addr) (m m₀ : Str → Option Value)
  (mg mb : Str → Option Value) (mean : ExcName → Option Value) (nm nm2 : Str) (names names2 : List (Str × NameKind)) (more more2 : List (Str × Const)) (L fa f2 : Addr) (cd cd2 : Value)
theorem ext_loop
  (T : Top hd.view_39 (looseW hd.view_39 lookL) mean mg mb g)
  (B : Below (callerA.deeper (envA nm names more L fa cd)) h₀ [envA nm names more L fa cd] g)
  (FG : Fr h₀ L g m₀) (ta q d x I D : Addr) (c : Nat) (vs : List Value) (ns : List Int) (hta : g.get? ta = some (listOf vs.toArray c))
  (hi : IntsAre vs ns) (l3 : @LT.lt Nat _ q d) (l4 : @LT.lt Nat _ d x) (l5 : @LT.lt Nat _ x I) (l6 : @LT.lt Nat _ I D) (KX : (hd.heap_39 w.params).In g) (R : Result → Shared → Prop) (all : List Int) (hall : all.length < 1000)
  (hR : ∀ h' tk' acc c', IntsAre acc all → (∀ b o, b ≠ L → g.get? b = some o → h'.get? b = some o) → h'.get? D = some (listOf acc.toArray c') → D ≠ L → g.get? D = none → h'.Ns L m₀ → R (.ok (.ret .none)) { s₁ with heap := h', toks := tk' }) :
  ∀ (k : Nat) (i : Int) (h : Heap) (tk : Nat) (acc : List Value) (is : List Int) (c' : Nat), Fr g L' h m → News g L' h [(D, listOf acc.toArray c'), (I, riObj i k), (x, ffObj d q I), (d, dictOf [] 0), (q, mwObj ta)] → IntsAre acc is → all = is ++ outs ns i k →
  codeAny (model Challenge.rw_ik0170_01.row.prog w) ((callerA.deeper (envA nm names more L fa cd)).deeper (envB nm2 names2 more2 L' f2 cd2)).in1
    (.builtin "list.extend.loop" ⟨[.ref D, .ref x, .none], []⟩) R { s₁ with heap := h, toks := tk } := by
  intro k
  induction k using Nat.strongRecOn with
  | ind k ih =>
    intro i h tk acc is c' F N ha e
    refine codeAny_builtin PySem.F.entry_extend_loop ?_
    rw [Around.under_plainId PySem.F.plain_extend_loop _]
    show wpAny _ _ (pyNext (.ref x) >>= _) _ _ _
    refine wpAny_bind (next_one w h₀ g s₁ h tk L' m m₀ mg mb mean nm nm2 names names2 more more2 L fa f2 cd cd2 T B FG F ta q d x I D c vs ns (listOf acc.toArray c') i k hta N hi l3 l4 l5 l6 (by omega) _ _ ?_ ?_ KX)
    · intro j t h' tk' h1 h2 hz hj F' N'
      have eo := outs_next ns k i j h1 h2 hz hj
      rw [eo] at e
      have z := N' (D, listOf acc.toArray c') (.head _)
      have hal : acc.length < 1000 := by
        rw [ha.length]
        have := congrArg List.length e
        rw [List.length_append] at this
        omega
      show wpAny _ _ (updateSeq D (·.push (.int j t)) >>= _) _ _ _
      refine wpAny_bind ?_
      refine wpAny_updateSeq z.1 rfl (wpAny_pure ⟨plainId_quiet PySem.F.plain_extend_loop _, ?_⟩) (by rw [List.size_toArray, sizeLine_eq]; omega) (by show (acc.toArray.push (Value.int j t)).size ≤ sizeLine + 1; rw [Array.size_push, List.size_toArray, sizeLine_eq]; omega)
      have hs : Heap.SameBut D h' (h'.update D (Obj.mapSeq (·.push (.int j t)))) := Heap.SameBut.update ..
      have ho : (h'.update D (Obj.mapSeq (·.push (.int j t)))).get? D = some (listOf (acc.toArray.push (Value.int j t)) (c' + 1)) := by
        rw [Heap.get?_update_self _ z.1 (by rw [Obj.mapSeq_push_plain]; rfl), Obj.mapSeq_push_plain]
      have N2 := news_set (pre := []) N' (fun _ hp => nomatch hp) (by
        intro p hp
        simp only [List.mem_cons, List.not_mem_nil, or_false] at hp
        rcases hp with rfl | rfl | rfl | rfl <;> exact Nat.ne_of_lt (by dsimp only; omega)) hs ho
      have e2 : (i + (k : Int) - (j + 1)) = (((i + k - (j + 1)).toNat : Nat) : Int) := by omega
      rw [e2, show acc.toArray.push (Value.int j t) = (acc ++ [Value.int j t]).toArray from by simp] at N2
      refine ih (i + k - (j + 1)).toNat (by omega) (j + 1) _ tk' (acc ++ [Value.int j t]) (is ++ [j]) (c' + 1) (F'.change hs z.2.1 z.2.2) N2 (ha.append (.cons j t .nil)) ?_
      rw [e]; simp
    · intro hz h' tk' k1 hD hDL hgD hns
      have eo := outs_skip ns k i hz
      rw [eo, List.append_nil] at e
      refine wpAny_pure (hR h' tk' acc c' (e ▸ ha) k1 hD hDL hgD hns)

theorem own_list
  (T : Top hd.view_39 (looseW hd.view_39 lookL) mean mg mb g)
  (B : Below (callerA.deeper (envA nm names more L fa cd)) h₀ [envA nm names more L fa cd] g)
  (FG : Fr h₀ L g m₀) (h : Heap) (tk : Nat) (F : Fr g L' h m) (ta q d x I : Addr) (c n : Nat) (hn : n < 1000) (vs : List Value) (ns : List Int) (hta : g.get? ta = some (listOf vs.toArray c))
  (N : News g L' h [(I, riObj 0 n), (x, ffObj d q I), (d, dictOf [] 0), (q, mwObj ta)])
  (hi : IntsAre vs ns) (l3 : @LT.lt Nat _ q d) (l4 : @LT.lt Nat _ d x) (l5 : @LT.lt Nat _ x I) (KX : (hd.heap_39 w.params).In g) (Q : Value → Shared → Prop) (E : Value → Shared → Prop)
  (hQ : ∀ D h' tk' acc c', IntsAre acc (outs ns 0 n) → (∀ b o, b ≠ L → g.get? b = some o → h'.get? b = some o) → h'.get? D = some (listOf acc.toArray c') → D ≠ L → g.get? D = none → h'.Ns L m₀ → Q (.ref D) { s₁ with heap := h', toks := tk' }) :
  wpAny (model Challenge.rw_ik0170_01.row.prog w) ((callerA.deeper (envA nm names more L fa cd)).deeper (envB nm2 names2 more2 L' f2 cd2)) (call (.type "list") [.ref x]) Q E { s₁ with heap := h, toks := tk } := by
  refine callType_codes (Q₁ := fun obj s' => obj = .ref h.objs.size ∧ s' = { s₁ with heap := h.push { cls := .type "list", data := .seq #[] }, toks := tk }) PySem.F.called_list (PySem.F.typeCall_list_1 _) PySem.F.entry_list_init
    (code_list_new _ ⟨rfl, rfl⟩) fun obj s' h' => ?_
  obtain ⟨rfl, rfl⟩ := h'
  have l6 : ∀ p ∈ [(I, riObj 0 n), (x, ffObj d q I), (d, dictOf [] 0), (q, mwObj ta)], p.1 < h.objs.size := fun p hp => Heap.lt_size (N p hp).1
  have lI := l6 (I, riObj 0 n) (.head _)
  generalize hD : h.objs.size = D at *
  have N1 : News g L' (h.push (listOf #[] 0)) ((D, listOf #[] 0) :: _) := hD ▸ News.push F N (listOf #[] 0)
  have F1 : Fr g L' (h.push (listOf #[] 0)) m := F.push _
  have hS : (h.push (listOf #[] 0)).get? D = some (listOf #[] 0) := (N1 _ (.head _)).1
  refine ⟨⟨_, hS, rfl⟩, PySem.F.args_list_init_2 _ _, ?_⟩
  show wpAny _ _ (do let old ← Builtin.List.listItems (.ref D); Builtin.List.listUpdate (.ref D) (fun _ => #[]); letGo old.toList.reverse; Builtin.List.listExtendWith (.ref D) (.ref x) .none) _ _ _
  refine wpAny_bind ?_
  unfold Builtin.List.listItems
  refine wpAny_bind (wpAny_seqItems hS rfl (wpAny_pure ?_))
  show wpAny _ _ (updateSeq D (fun _ => #[]) >>= fun _ => letGo (#[] : Array Value).toList.reverse >>= fun _ => Builtin.List.listExtendWith (.ref D) (.ref x) .none) _ _ _
  refine wpAny_bind (wpAny_updateSeq hS rfl ?_)
  have hS₂ := Heap.get?_update_self (Obj.mapSeq (fun _ => (#[] : Array Value))) hS rfl
  refine wpAny_bind (wpAny_letGo ?_)
  have z := N1 _ (.head _)
  have hne : ∀ p ∈ [(I, riObj 0 n), (x, ffObj d q I), (d, dictOf [] 0), (q, mwObj ta)], p.1 ≠ D := fun p hp => Nat.ne_of_lt (l6 p hp)
  have s2 : Heap.SameBut D (h.push (listOf #[] 0)) ((h.push (listOf #[] 0)).update D (Obj.mapSeq (fun _ => (#[] : Array Value)))) := Heap.SameBut.update ..
  have F2 := F1.change s2 z.2.1 z.2.2
  have N2 : News g L' ((h.push (listOf #[] 0)).update D (Obj.mapSeq (fun _ => (#[] : Array Value)))) ((D, Obj.mapSeq (fun _ => (#[] : Array Value)) (listOf #[] 0)) :: _) := news_set (pre := []) N1 (fun _ hp => nomatch hp) hne s2 hS₂
  have X2 := KX.keeps F2.keep
  have I2 : InstAt ((h.push (listOf #[] 0)).update D (Obj.mapSeq (fun _ => (#[] : Array Value)))) x (ffObj d q I) 47 (some (dictOf [] 0)) := InstAt.of_news N2 (.tail _ (.tail _ (.head _))) (.tail _ (.tail _ (.tail _ (.head _))))
  unfold Builtin.List.listExtendWith
  refine wpAny_bind (I2.type.here ?_)
  have h1 : Builtin.List.listSameRef (.ref D) (.ref x) = false := by
    have : x ≠ D := hne _ (.tail _ (.head _))
    simp [Builtin.List.listSameRef, Ne.symm this]
  have h2 : (Value.ref 47 == Value.type "list") = false := by decide
  have h3 : (Value.ref 47 == Value.type "tuple") = false := by decide
  simp only [h1, h2, h3, Bool.or_false, Bool.false_eq_true, if_false]
  refine wpAny_bind (iter_self w h₀ g s₁ _ _ L' m mg mb mean nm nm2 names names2 more more2 L fa f2 cd cd2 T B F2 q d x I D _ _ N2 _ _ (fun hh tt F3 N3 => ?_) KX)
  refine wpAny_bind (wpAny_holding ?_)
  have X3 := KX.keeps F3.keep
  have I3 : InstAt hh x (ffObj d q I) 47 (some (dictOf [] 0)) := InstAt.of_news N3 (.tail _ (.tail _ (.head _))) (.tail _ (.tail _ (.tail _ (.head _))))
  unfold Builtin.List.listLengthHint
  refine wpAny_bind (wpAny_bind (I3.type.here ((looks_findIn X3 (no_len w)).here ?_)))
  show wpAny _ _ (specialOf (.ref x) (Str.ofString "__length_hint__") >>= _) _ _ _
  refine wpAny_bind (wpAny_bind (I3.type.here ((looks_findIn X3 (no_hint w)).here ?_)))
  refine wpAny_pure ?_
  show wpAny _ _ (rule "list.extend.makes-room" >>= fun _ => Builtin.List.listTouch (.ref D) >>= fun _ => again (.builtin "list.extend.loop" ⟨[.ref D, .ref x, .none], []⟩)) _ _ _
  refine wpAny_bind (wpAny_rule ?_)
  refine wpAny_bind ?_
  show wpAny _ _ (updateSeq D (·.push .none) >>= fun _ => updateSeq D (·.pop)) _ _ _
  have z3 := N3 _ (.head _)
  refine wpAny_bind (wpAny_updateSeq z3.1 rfl ?_)
  have hS₄ := Heap.get?_update_self (Obj.mapSeq (·.push Value.none)) z3.1 rfl
  refine wpAny_updateSeq (hz := by seq_fits) hS₄ rfl ?_
  have hS₅ := Heap.get?_update_self (Obj.mapSeq (·.pop)) hS₄ rfl
  have s5 : Heap.SameBut D hh ((hh.update D (Obj.mapSeq (·.push Value.none))).update D (Obj.mapSeq (·.pop))) := (Heap.SameBut.update ..).trans (Heap.SameBut.update ..)
  have F5 := F3.change s5 z3.2.1 z3.2.2
  have N5 := news_set (pre := []) N3 (fun _ hp => nomatch hp) hne s5 hS₅
  refine wpAny_pure ⟨plainId_quiet PySem.F.plain_extend_loop _, ?_⟩
  refine ext_loop w h₀ g s₁ L' m m₀ mg mb mean nm nm2 names names2 more more2 L fa f2 cd cd2 T B FG ta q d x I D c vs ns hta hi l3 l4 l5 lI KX _ (outs ns 0 n) (Nat.lt_of_le_of_lt (outs_len ns n 0) hn) ?_ n 0 _ _ [] [] _ F5 N5 .nil rfl
  intro h' tk' acc c' ha k1 hD1 hDL hgD hns
  exact ⟨rfl, hQ D h' tk' acc c' ha k1 hD1 hDL hgD hns⟩
end
end Mine
namespace Mine
local macro_rules | `(tactic| walk_at "getAttr ref") => `(tactic| (k_here; (with_reducible show wpAny _ _ (getAttr (Value.ref _) (PySem.Str.ofString "__contains__") true) _ _ _); k_dflt (refine' k_contains ?k1 ?k2 ?k3 ?_; (case k1 => k_asm); (case k2 => k_asm); (case k3 => exact Fr.keep (by assumption) _ _ (by assumption)); k_whole); intro q' h' tk' F' N' l1; (try k_lt l1); (try k_sweep)))
local macro_rules | `(tactic| walk_at "call builtin:iter") => `(tactic| (k_here; (with_reducible show wpAny _ _ (call (Value.builtin "iter") [Value.ref _]) _ _ _); k_dflt (refine' k_iter_range ?k1 ?k2 ?k3 ?k4 ?_; (case k1 => k_asm); (case k2 => k_asm); (case k3 => exact Fr.keep (by assumption) _ _ (Fr.keep (by assumption) _ _ (by assumption))); (case k4 => k_asm); k_whole); intro I' h' F' N' l1; (try k_lt l1); (try k_sweep)))
theorem list_here {M : Model} {A : Around} {E : Value → Shared → Prop} {s : Shared} {x : Addr} {Q : Value → Shared → Prop} (h : wpAny M A (call (.type "list") [.ref x]) Q E s) : wpAny M A (call (.type "list") [.ref x]) Q E s := h
set_option maxHeartbeats 8000000 in
/-- the call _filter(range(n), told): a new list of the ints of the range that told does not hold -/
theorem filt (w : World) (h₀ : Heap) (s₁ : Shared) (h : Heap) (tk : Nat) (m₀ : Str → Option Value)
  (mg mb : Str → Option Value) (mean : ExcName → Option Value) (nm : Str) (names : List (Str × NameKind)) (more : List (Str × Const)) (L fa : Addr) (cd : Value)
  (T : Top hd.view_39 (looseW hd.view_39 lookL) mean mg mb h₀)
  (K0 : Below callerA h₀ [] h₀) (FL : Fr h₀ L h m₀) (ta ra : Addr) (c : Nat) (vs : List Value) (ns : List Int) (n : Nat) (hn : n < 1000) (t u v : Tok) (hta : h.get? ta = some (listOf vs.toArray c)) (hra : h.get? ra = some (rgObj n t u v))
  (hi : IntsAre vs ns) (Q : Value → Shared → Prop) (E : Value → Shared → Prop)
  (hQ : ∀ D h' tk' acc c', IntsAre acc (outs ns 0 n) → (∀ b o, b ≠ L → h.get? b = some o → h'.get? b = some o) → h'.get? D = some (listOf acc.toArray c') → D ≠ L → h.get? D = none → h'.Ns L m₀ → Q (.ref D) { s₁ with heap := h', toks := tk' }) : (hd.heap_39 w.params).In h₀ → 
  wpAny (model Challenge.rw_ik0170_01.row.prog w) (callerA.deeper (envA nm names more L fa cd))
    (call (.ref 58) [.ref ra, .ref ta]) Q E { s₁ with heap := h, toks := tk } := by
  k_fill
  intro KX
  w_on
  refine wpAny_call ?_
  refine' code_def0 ?k1 ?k2 ?k3 ?k5 ?kA ?kF ?kK ?k6 ?k7 ?k8 ?k9 ?kB ?_ ?c2 ?c3 ?c4 ?c5
  (case kA => exact rfl)
  (case kF => exact rfl)
  (case kK => exact rfl)
  (case k1 => k_asm); (case k2 => k_asm); (case k3 => k_asm); (case k5 => k_asm)
  (case k6 => k_is)
  (case k7 => k_is)
  (case k8 => k_room)
  (case k9 => exact BindsTo.of_eq rfl); (case c5 => decide); (case kB => exact locs rfl); (case c2 => exact rfl); (case c3 => exact rfl); (case c4 => exact rfl)
  intro L' h' F' B' X' T'
  have N' : News h L' h' [] := News.nil
  dsimp only
  k_unmd; k_fold
  iterate 40 (first | (k_unfold; (try dsimp only)) | (k_end; wrow_close) | walk1 | (dsimp only; walk1) | (leave1; walk_say "STEP leave1"; try dsimp only) | fail "no step")
  refine own_list w h₀ h s₁ L' _ m₀ mg mb mean nm (Str.ofString "_filter") names _ more _ L fa 58 cd (.ref 57) T' B' FL _ _ (by assumption) ta _ _ _ _ c n hn vs ns hta (by assumption) hi (by omega) (by omega) (by omega) X' _ _ ?_
  intro D h2 tk2 acc c2 a1 a2 a3 a4 a5 a6
  exact hQ D h2 tk2 acc c2 a1 a2 a3 a4 a5 a6
end Mine
namespace Mine
def Ext (h h' : Heap) : Prop := ∀ b o, h.get? b = some o → h'.get? b = some o
theorem Ext.refl (h : Heap) : Ext h h := fun _ _ e => e
theorem Ext.trans {h h' h'' : Heap} (x : Ext h h') (y : Ext h' h'') : Ext h h'' := fun b o e => y b o (x b o e)
theorem krfl (s : Shared) : Keeps s s := ⟨s.heap, s.toks, rfl, fun _ _ e => e⟩
theorem kof (s : Shared) {h' : Heap} {tk : Nat} (x : Ext s.heap h') : Keeps s { s with heap := h', toks := tk } := ⟨h', tk, rfl, x⟩
theorem kext {s s' : Shared} (k : Keeps s s') : Ext s.heap s'.heap := by obtain ⟨_, _, rfl, e⟩ := k; exact e
theorem kthen {s s' s'' : Shared} (a : Keeps s s') (b : Keeps s' s'') : Keeps s s'' := by
  obtain ⟨h1, t1, rfl, e1⟩ := a
  obtain ⟨h2, t2, rfl, e2⟩ := b
  exact ⟨h2, t2, rfl, fun x o e => e2 x o (e1 x o e)⟩

abbrev LST (h : Heap) (a : Addr) (vs : List Value) : Prop := ∃ c, h.get? a = some (listOf vs.toArray c)
theorem LST.ext {h h' : Heap} {a : Addr} {vs : List Value} (x : LST h a vs) (e : Ext h h') : LST h' a vs := let ⟨c, y⟩ := x; ⟨c, e _ _ y⟩
theorem LST.isList {h : Heap} {a : Addr} {vs : List Value} (x : LST h a vs) : h.IsList a vs.toArray := let ⟨c, y⟩ := x; ⟨_, y, rfl, c, rfl⟩
theorem LST.lt {h : Heap} {a : Addr} {vs : List Value} (x : LST h a vs) : a < h.objs.size := let ⟨_, y⟩ := x; Heap.lt_size y

/-- e comes out in any state whose heap holds h, quietly, as P says -/
def Ev (prog : Program) (w : World) (A : Around) (env : Env) (e : Expr) (h : Heap) (P : Value → Heap → Prop) : Prop :=
  ∀ (s : Shared) (Q : Value → Shared → Prop) (E : Value → Shared → Prop), Ext h s.heap → (∀ y s', P y s'.heap → Keeps s s' → Q y s') → wpAny (model prog w) A (eval e env) Q E s

section
variable {prog : Program} {w : World} {A : Around} {env : Env} {h : Heap}
theorem Ev.ext {e : Expr} {P : Value → Heap → Prop} {h' : Heap} (x : Ev prog w A env e h P) (k : Ext h h') : Ev prog w A env e h' P := fun s Q E k' hQ => x s Q E (k.trans k') hQ
theorem Ev.mono {e : Expr} {P P' : Value → Heap → Prop} (x : Ev prog w A env e h P) (i : ∀ y h', Ext h h' → P y h' → P' y h') : Ev prog w A env e h P' := fun s Q E k hQ => x s Q E k fun y s' p kk => hQ y s' (i y _ (k.trans (kext kk)) p) kk

abbrev IsI (k : Int) : Value → Heap → Prop := fun y _ => ∃ t, y = .int k t
abbrev IsR (a : Addr) : Value → Heap → Prop := fun y _ => y = .ref a
abbrev IsB (b : Bool) : Value → Heap → Prop := fun y _ => y = .bool b

theorem ev_int {i : Int} {k : Nat} {pos : Pos} : Ev prog w A env (.Constant (.int i) k pos) h (IsI i) := fun s _ _ _ hQ => wpAny_Constant_int (hQ _ _ ⟨_, rfl⟩ (kof s (Ext.refl _)))
theorem ev_bool {b : Bool} {k : Nat} {pos : Pos} : Ev prog w A env (.Constant (.bool b) k pos) h (IsB b) := fun s _ _ _ hQ => wpAny_Constant_bool (hQ _ _ rfl (krfl s))
theorem ev_loc {x : Str} {pos : Pos} {m : Str → Option Value} {v : Value} (hn : h.Ns env.locals m) (hv : m x = some v) (hk : env.scope.kind = .function) (hl : env.kindOf x = some .local) (hd : (x == ("__debug__" : Str)) = false) :
    Ev prog w A env (.Name x pos) h (fun y _ => y = v) := fun s _ _ k hQ => wpAny_Name (wpAny_loadName_local hk hl (hn.at' fun o e => k _ o e) hv (hQ _ _ rfl (krfl s))) hd
theorem ev_cell {x : Str} {pos : Pos} {c : Addr} {v : Value} (hv : h.IsCell c (some v)) (hc : env.cells.lookup x = some c) (hk : env.scope.kind = .function) (hl : env.kindOf x = some .cell) (hd : (x == ("__debug__" : Str)) = false) :
    Ev prog w A env (.Name x pos) h (fun y _ => y = v) := fun s _ _ k hQ => wpAny_Name (wpAny_loadName_cell hk hl hc (hv.keeps k) (hQ _ _ rfl (krfl s))) hd
theorem ev_glob {x : Str} {pos : Pos} {mg : Str → Option Value} {v : Value} (hg : h.Ns env.globals mg) (hv : mg x = some v) (hk : env.scope.kind = .function) (hl : env.kindOf x = some .globalImplicit) (hd : (x == ("__debug__" : Str)) = false) :
    Ev prog w A env (.Name x pos) h (fun y _ => y = v) := fun s _ _ k hQ => Calls.Name_function_global hk hl (Calls.loadGlobal_global (hg.at' fun o e => k _ o e) hv (hQ _ _ rfl (krfl s))) hd
theorem ev_boot {x : Str} {pos : Pos} {mg mb : Str → Option Value} {v : Value} (hg : h.Ns env.globals mg) (hm : mg x = none) (hb : h.Ns env.builtins mb) (hv : mb x = some v) (hk : env.scope.kind = .function) (hl : env.kindOf x = some .globalImplicit) (hd : (x == ("__debug__" : Str)) = false) :
    Ev prog w A env (.Name x pos) h (fun y _ => y = v) := fun s _ _ k hQ => Calls.Name_function_global hk hl (Calls.loadGlobal_builtin (hg.at' fun o e => k _ o e) hm (hb.at' fun o e => k _ o e) hv (hQ _ _ rfl (krfl s))) hd

theorem ev_sub {value slice : Expr} {pos : Pos} {l : Addr} {vs : List Value} {k : Int} {v : Value} (hv : Ev prog w A env value h (IsR l)) (hs : Ev prog w A env slice h (IsI k)) (hl : LST h l vs) (h0 : 0 ≤ k) (h1 : k < 2 ^ 63) (hx : vs[k.toNat]? = some v)
    (hsub : ∀ t, subscripted slice false (.ref l) (.int k t) = operate [.ref l, .int k t] (getItem (.ref l) (.int k t)) := by intro _; rfl) : Ev prog w A env (.Subscript value slice pos) h (fun y _ => y = v) := fun s Q E kk hQ => by
  refine Subscript_ (hv s _ _ kk fun y s1 hy k1 => ?_)
  subst hy
  refine hs s1 _ _ (kk.trans (kext k1)) fun y s2 hy k2 => ?_
  obtain ⟨t, rfl⟩ := hy
  have hl2 := (hl.ext ((kk.trans (kext k1)).trans (kext k2))).isList
  exact tail_any hl2.typeIs slot_list_getitem.lookup (wpAny_getItem_list hl2 h0 h1 (by simpa using hx) (hQ _ _ rfl (kthen k1 k2))) (hsub t)

theorem ev_bin {l r : Expr} {op : Operator} {pos : Pos} {P1 P2 P : Value → Heap → Prop} (hl : Ev prog w A env l h P1) (hr : Ev prog w A env r h P2) (m1 : ∀ y h1 h2, Ext h1 h2 → P1 y h1 → P1 y h2)
    (hop : ∀ a b (s : Shared) (Q : Value → Shared → Prop) (E : Value → Shared → Prop), Ext h s.heap → P1 a s.heap → P2 b s.heap → (∀ y s', P y s'.heap → Keeps s s' → Q y s') → wpAny (model prog w) A (binaryOp op a b) Q E s) :
    Ev prog w A env (.BinOp l op r pos) h P := fun s Q E kk hQ => by
  refine wpAny_BinOp (hl s _ _ kk fun a s1 ha k1 => hr s1 _ _ (kk.trans (kext k1)) fun b s2 hb k2 => ?_)
  exact hop a b s2 Q E ((kk.trans (kext k1)).trans (kext k2)) (m1 _ _ _ (kext k2) ha) hb fun y s' p k3 => hQ y s' p (kthen (kthen k1 k2) k3)
theorem keeps_tok (s : Shared) : Keeps s { s with toks := s.toks + 1 } := ⟨s.heap, s.toks + 1, rfl, fun _ _ e => e⟩
theorem ev_add {l r : Expr} {pos : Pos} {a b : Int} (hl : Ev prog w A env l h (IsI a)) (hr : Ev prog w A env r h (IsI b)) : Ev prog w A env (.BinOp l .Add r pos) h (IsI (a + b)) :=
  ev_bin hl hr (fun _ _ _ _ e => e) fun _ _ s _ _ _ ha hb hQ => by obtain ⟨t, rfl⟩ := ha; obtain ⟨u, rfl⟩ := hb; exact add_int (hQ _ _ ⟨_, rfl⟩ (keeps_tok s))
theorem ev_sub_int {l r : Expr} {pos : Pos} {a b : Int} (hl : Ev prog w A env l h (IsI a)) (hr : Ev prog w A env r h (IsI b)) : Ev prog w A env (.BinOp l .Sub r pos) h (IsI (a - b)) :=
  ev_bin hl hr (fun _ _ _ _ e => e) fun _ _ s _ _ _ ha hb hQ => by obtain ⟨t, rfl⟩ := ha; obtain ⟨u, rfl⟩ := hb; exact sub_int (hQ _ _ ⟨_, rfl⟩ (keeps_tok s))
theorem ev_mul {l r : Expr} {pos : Pos} {a b : Int} (hl : Ev prog w A env l h (IsI a)) (hr : Ev prog w A env r h (IsI b)) (hm : IntMulOk a b) : Ev prog w A env (.BinOp l .Mult r pos) h (IsI (a * b)) :=
  ev_bin hl hr (fun _ _ _ _ e => e) fun _ _ s _ _ _ ha hb hQ => by obtain ⟨t, rfl⟩ := ha; obtain ⟨u, rfl⟩ := hb; exact mul_int (hQ _ _ ⟨_, rfl⟩ (keeps_tok s)) hm
theorem ev_pow {l r : Expr} {pos : Pos} {a b : Int} (hl : Ev prog w A env l h (IsI a)) (hr : Ev prog w A env r h (IsI b)) (h0 : 0 ≤ b) (h1 : b ≤ 1000000) (ha : a.natAbs < 2 ^ 64) : Ev prog w A env (.BinOp l .Pow r pos) h (IsI (a ^ b.toNat)) :=
  ev_bin hl hr (fun _ _ _ _ e => e) fun _ _ s _ _ _ ha' hb hQ => by obtain ⟨t, rfl⟩ := ha'; obtain ⟨u, rfl⟩ := hb; exact pow_int_small h0 h1 ha (hQ _ _ ⟨_, rfl⟩ (keeps_tok s))
theorem ev_div {l r : Expr} {pos : Pos} {a b : Int} (hl : Ev prog w A env l h (IsI a)) (hr : Ev prog w A env r h (IsI b)) (h0 : b ≠ 0) (hp : ∀ s : Shared, Ext h s.heap → PylongRoom (model prog w) A s) : Ev prog w A env (.BinOp l .FloorDiv r pos) h (IsI (a.fdiv b)) :=
  ev_bin hl hr (fun _ _ _ _ e => e) fun _ _ s _ _ k ha' hb hQ => by obtain ⟨t, rfl⟩ := ha'; obtain ⟨u, rfl⟩ := hb; exact floordiv_int h0 (hQ _ _ ⟨_, rfl⟩ (keeps_tok s)) (.inr (hp s k))
theorem ev_mod {l r : Expr} {pos : Pos} {a b : Int} (hl : Ev prog w A env l h (IsI a)) (hr : Ev prog w A env r h (IsI b)) (h0 : b ≠ 0) : Ev prog w A env (.BinOp l .Mod r pos) h (IsI (a.fmod b)) :=
  ev_bin hl hr (fun _ _ _ _ e => e) fun _ _ s _ _ k ha' hb hQ => by obtain ⟨t, rfl⟩ := ha'; obtain ⟨u, rfl⟩ := hb; exact mod_int' h0 (hQ _ _ ⟨_, rfl⟩ (keeps_tok s))
theorem ev_xor {l r : Expr} {pos : Pos} {a b : Int} (hl : Ev prog w A env l h (IsI a)) (hr : Ev prog w A env r h (IsI b)) : Ev prog w A env (.BinOp l .BitXor r pos) h (IsI (Builtin.bitXor a b)) :=
  ev_bin hl hr (fun _ _ _ _ e => e) fun _ _ s _ _ _ ha hb hQ => by obtain ⟨t, rfl⟩ := ha; obtain ⟨u, rfl⟩ := hb; exact xor_int (hQ _ _ ⟨_, rfl⟩ (keeps_tok s))

def Cmp (prog : Program) (w : World) (A : Around) (h : Heap) (op : CmpOp) (P1 P2 : Value → Heap → Prop) (b : Bool) : Prop :=
  ∀ x y (s : Shared) (Q : Value → Shared → Prop) (E : Value → Shared → Prop), Ext h s.heap → P1 x s.heap → P2 y s.heap → (∀ s', Keeps s s' → Q (.bool b) s') → wpAny (model prog w) A (compareOp op x y) Q E s
def EvT (prog : Program) (w : World) (A : Around) (env : Env) (e : Expr) (h : Heap) (b : Bool) : Prop :=
  ∀ (s : Shared) (Q : Bool → Shared → Prop) (E : Value → Shared → Prop), Ext h s.heap → (∀ s', Keeps s s' → Q b s') → wpAny (model prog w) A (isTrue e env (eval e env)) Q E s
theorem ev_cmp {l r : Expr} {op : CmpOp} {pos : Pos} {P1 P2 : Value → Heap → Prop} {b : Bool} (hl : Ev prog w A env l h P1) (hr : Ev prog w A env r h P2) (m1 : ∀ y h1 h2, Ext h1 h2 → P1 y h1 → P1 y h2)
    (hop : Cmp prog w A h op P1 P2 b) (hm : behindInMarks op r = false) : Ev prog w A env (.Compare l [op] [r] pos) h (IsB b) := fun s Q E kk hQ => by
  refine wpAny_Compare1 (hl s _ _ kk fun x s1 ha k1 => hr s1 _ _ (kk.trans (kext k1)) fun y s2 hb k2 => ?_) hm
  exact hop x y s2 Q E ((kk.trans (kext k1)).trans (kext k2)) (m1 _ _ _ (kext k2) ha) hb fun s' k3 => hQ _ s' rfl (kthen (kthen k1 k2) k3)
theorem evT_cmp {l r : Expr} {op : CmpOp} {pos : Pos} {P1 P2 : Value → Heap → Prop} {b : Bool} (hl : Ev prog w A env l h P1) (hr : Ev prog w A env r h P2) (m1 : ∀ y h1 h2, Ext h1 h2 → P1 y h1 → P1 y h2)
    (hop : Cmp prog w A h op P1 P2 b) (hm : behindInMarks op r = false) : EvT prog w A env (.Compare l [op] [r] pos) h b := fun s Q E kk hQ => by
  refine wpAny_isTrue_Compare1 (hl s _ _ kk fun x s1 ha k1 => hr s1 _ _ (kk.trans (kext k1)) fun y s2 hb k2 => ?_) hm
  exact hop x y s2 _ E ((kk.trans (kext k1)).trans (kext k2)) (m1 _ _ _ (kext k2) ha) hb fun s' k3 => wpAny_truthy_bool (hQ s' (kthen (kthen k1 k2) k3))
theorem mI (k : Int) : ∀ y h1 h2, Ext h1 h2 → IsI k y h1 → IsI k y h2 := fun _ _ _ _ e => e
theorem mB (k : Bool) : ∀ y h1 h2, Ext h1 h2 → IsB k y h1 → IsB k y h2 := fun _ _ _ _ e => e
theorem mR (k : Addr) : ∀ y h1 h2, Ext h1 h2 → IsR k y h1 → IsR k y h2 := fun _ _ _ _ e => e
theorem cmp_eq {a b : Int} : Cmp prog w A h .Eq (IsI a) (IsI b) (a == b) := fun _ _ s _ _ _ ha hb hQ => by obtain ⟨t, rfl⟩ := ha; obtain ⟨u, rfl⟩ := hb; exact eq_int (hQ _ (krfl s))
theorem cmp_ne {a b : Int} : Cmp prog w A h .NotEq (IsI a) (IsI b) (a != b) := fun _ _ s _ _ _ ha hb hQ => by obtain ⟨t, rfl⟩ := ha; obtain ⟨u, rfl⟩ := hb; exact ne_int (hQ _ (krfl s))
theorem cmp_lt {a b : Int} : Cmp prog w A h .Lt (IsI a) (IsI b) (decide (a < b)) := fun _ _ s _ _ _ ha hb hQ => by obtain ⟨t, rfl⟩ := ha; obtain ⟨u, rfl⟩ := hb; exact lt_int (hQ _ (krfl s))
theorem cmp_neB {a b : Bool} : Cmp prog w A h .NotEq (IsB a) (IsB b) (a != b) := fun _ _ s _ _ _ ha hb hQ => by subst ha; subst hb; exact ne_bool (hQ _ (krfl s))

/-- a new list of ints | of bools -/
abbrev NewI (h : Heap) (ns : List Int) : Value → Heap → Prop := fun y h' => ∃ D vs, y = .ref D ∧ h.get? D = none ∧ LST h' D vs ∧ IntsAre vs ns
abbrev NewB (h : Heap) (bs : List Bool) : Value → Heap → Prop := fun y h' => ∃ D, y = .ref D ∧ h.get? D = none ∧ LST h' D (bs.map Value.bool)
abbrev HasI (ns : List Int) : Value → Heap → Prop := fun y h' => ∃ D vs, y = .ref D ∧ LST h' D vs ∧ IntsAre vs ns
abbrev HasB (bs : List Bool) : Value → Heap → Prop := fun y h' => ∃ D, y = .ref D ∧ LST h' D (bs.map Value.bool)
theorem mHI (ns : List Int) : ∀ y h1 h2, Ext h1 h2 → HasI ns y h1 → HasI ns y h2 := fun _ _ _ k ⟨D, vs, a, b, c⟩ => ⟨D, vs, a, b.ext k, c⟩
theorem mHB (bs : List Bool) : ∀ y h1 h2, Ext h1 h2 → HasB bs y h1 → HasB bs y h2 := fun _ _ _ k ⟨D, a, b⟩ => ⟨D, a, b.ext k⟩
theorem cmp_in {a : Int} {ns : List Int} : Cmp prog w A h .In (IsI a) (HasI ns) (ns.any (· == a)) := fun _ _ s _ _ _ ha hb hQ => by obtain ⟨t, rfl⟩ := ha; obtain ⟨D, vs, rfl, hl, hi⟩ := hb; exact in_list_ints hl.isList hi (hQ _ (krfl s))
theorem cmp_notin {a : Int} {ns : List Int} : Cmp prog w A h .NotIn (IsI a) (HasI ns) (!ns.any (· == a)) := fun _ _ s _ _ _ ha hb hQ => by obtain ⟨t, rfl⟩ := ha; obtain ⟨D, vs, rfl, hl, hi⟩ := hb; exact notin_list_ints hl.isList hi (hQ _ (krfl s))
theorem cmp_neL {ns ms : List Int} (hu : A.units + 64 < cLine) : Cmp prog w A h .NotEq (HasI ns) (HasI ms) (!decide (ns = ms)) := fun _ _ s _ _ _ ha hb hQ => by
  obtain ⟨D, vs, rfl, hl, hi⟩ := ha; obtain ⟨D2, us, rfl, hl2, hi2⟩ := hb
  exact ne_intsK hl.isList hi hl2.isList hi2 hu (hQ _ (krfl s))
def isTrueV : Value → Bool | .bool b => b | _ => false
theorem eqGives_bool (a b : Bool) : MeetsSeq.EqGives (.bool a) (.bool b) (a == b) := fun prog w A E s Q h => by
  unfold eqBool
  show wpAny _ _ (if (Value.bool a == Value.bool b) = true then _ else _) Q E s
  by_cases hab : (Value.bool a == Value.bool b) = true
  · rw [if_pos hab]
    have e : a = b := by have := eq_of_beq hab; injection this
    subst e
    exact wpAny_bind (wpAny_rule (wpAny_pure (by simpa using h)))
  · rw [if_neg hab]
    exact wpAny_bind (wpAny_mono (show wpAny _ _ (compareOp .Eq (.bool a) (.bool b)) (fun v s' => v = .bool (a == b) ∧ s' = s) E s from eq_bool ⟨rfl, rfl⟩) (fun v s' hv => by obtain ⟨rfl, rfl⟩ := hv; exact wpAny_truthy_bool h) fun _ _ e => e)
theorem cmp_notinB {bs : List Bool} : Cmp prog w A h .NotIn (IsB true) (HasB bs) (!bs.any (· == true)) := fun _ _ s _ _ _ ha hb hQ => by
  subst ha; obtain ⟨D, rfl, hl⟩ := hb
  refine SeqInW.notIn_listW isTrueV (fun y hy => ?_) hl.isList ?_
  · obtain ⟨b, _, rfl⟩ := List.mem_map.mp (List.mem_toArray.mp hy)
    have := eqGives_bool b true
    simpa [isTrueV] using this
  · have e : (bs.map Value.bool).toArray.any isTrueV = bs.any (· == true) := by
      rw [← Array.any_toList]
      simp [isTrueV, List.any_map, Function.comp_def]
    rw [e]; exact hQ _ (krfl s)
end
end Mine
namespace Mine
section
variable {prog : Program} {w : World} {A : Around} {env : Env} {h : Heap}

def rng (n : Nat) : List Int := (List.range n).map fun i : Nat => (i : Int)
theorem paired_ints {f : Value → Int} : ∀ {vs ys : List Value}, Paired (fun v y => ∃ t, y = .int (f v) t) vs ys → IntsAre ys (vs.map f)
  | _, _, .nil => .nil
  | _, _, .cons (a := v) ⟨t, e⟩ r => by subst e; exact .cons (f v) t (paired_ints r)
theorem paired_bools {f : Value → Bool} : ∀ {vs ys : List Value}, Paired (fun v y => y = .bool (f v)) vs ys → ys = (vs.map f).map Value.bool
  | _, _, .nil => rfl
  | _, _, .cons (a := v) e r => by subst e; rw [paired_bools r]; rfl
theorem plain_lst {h : Heap} {a : Addr} {ys : Array Value} (x : h.PlainList a ys) : LST h a ys.toList := let ⟨n, e⟩ := x; ⟨n, e⟩

/-- a comprehension over a list, no test -/
theorem ev_lc {elt iter : Expr} {x : Str} {px pos : Pos} {scope : Scope} {cl : List (Str × Addr)} {vs : List Value} (F : Value → Value → Prop)
    (hh : A.handled = none) (hclos : closureFor scope env = pure cl) (hcell : ∀ y ∈ scope.names, y.2 ≠ .cell) (hkind : scope.kind = .function)
    (hnames : ∀ y ∈ scope.names, y.2 = .local → scope.names.lookup y.1 = some .local) (hx : scope.names.lookup x = some .local)
    (hi : Ev prog w A env iter h (fun y h' => ∃ l, y = .ref l ∧ LST h' l vs)) (hsz : vs.length ≤ 1000)
    (he : ∀ C v H m, Ext h H → v ∈ vs → H.Ns C m → m x = some v → Ev prog w A (compEnvC scope cl C env) elt H (fun y _ => F v y))
    (hs : ∀ x, foldedSetIterable iter env x = pure x) :
    Ev prog w A env (.ListComp elt [⟨.Name x px, iter, [], 0⟩] scope pos) h (fun y h' => ∃ D ys, y = .ref D ∧ h.get? D = none ∧ LST h' D ys ∧ Paired F vs ys) := fun s Q E kk hQ => by
  refine wpAny_ListComp_free (fun _ => true) F hclos hcell hkind hnames hx (hi s _ _ kk fun y s1 hy k1 => ?_) hs
  obtain ⟨l, rfl, hl⟩ := hy
  have hlt := hl.lt
  have hne : l ≠ s1.heap.objs.size := Nat.ne_of_lt hlt
  refine wpAny_pyIter_list hl.isList ⟨s1.heap.objs.size, _, _, vs.toArray.size, _, _, rfl, Walks.list (prog := prog) (w := w) hh s1.heap.objs.size l hne vs.toArray, ?_, ⟨⟨_, Heap.get?_push_size _ rfl, rfl, rfl⟩, hl.isList.at fun o e => Heap.get?_push_of_some _ e⟩, ?_, ⟨?_, ?_⟩, ?_⟩
  · rw [List.size_toArray, sizeLine_eq]; omega
  · intro b hb
    rw [Heap.size_push]
    rcases List.mem_cons.mp hb with e | hb
    · rw [e]; exact Nat.lt_succ_self _
    · rw [List.mem_singleton.mp hb]; exact Nat.lt_succ_of_lt hlt
  · intro C i v s3 m3 E' _ _ _ _ _ _
    exact wpAny_tests_nil ⟨rfl, krfl _⟩
  · intro C i v s3 m3 E' hC hP _ hn hm hk htk
    have e1 : Ext h s3.heap := fun b o e => by
      have e2 := kext k1 _ _ (kk _ _ e)
      exact hk b o (fun hb => absurd (Heap.lt_size e2) (by rw [List.mem_singleton.mp hb]; exact Nat.lt_irrefl _)) (Heap.get?_push_of_some _ e2)
    exact he C v s3.heap m3 e1 (List.mem_of_getElem? (by simpa using hP)) hn hm s3 _ _ (Ext.refl _) fun y s4 p k4 => ⟨p, k4⟩
  · intro D h' tk ys vs' hD hl' hpl hlen hP hF hk
    have ev : vs' = vs := by
      apply List.ext_getElem?
      intro j
      by_cases hj : j < vs'.length
      · have h1 := hP j vs'[j] (by simp [hj])
        have h2 : vs[j]? = some vs'[j] := by simpa using h1
        rw [h2]; simp [hj]
      · have h2 : vs.length ≤ j := by rw [List.size_toArray] at hlen; omega
        rw [List.getElem?_eq_none (by omega), List.getElem?_eq_none h2]
    subst ev
    have hF' : Paired F vs' ys.toList := by rw [List.filter_eq_self.mpr (fun _ _ => rfl)] at hF; exact hF
    have e1 : Ext s1.heap h' := fun b o e => hk b o (fun hb => absurd (Heap.lt_size e) (by rw [List.mem_singleton.mp hb]; exact Nat.lt_irrefl _)) (Heap.get?_push_of_some _ e)
    refine hQ _ _ ⟨D, ys.toList, rfl, ?_, plain_lst hpl, hF'⟩ (kthen k1 (kof s1 e1))
    cases q : h.get? D with
    | none => rfl
    | some o => have := Heap.get?_push_of_some { cls := .type "list_iterator", data := .fields #[.ref l, .int 0 0] } (kext k1 _ _ (kk _ _ q)); rw [hD] at this; cases this

/-- a comprehension over range(n) with one test -/
theorem ev_lcR {elt iter c : Expr} {x : Str} {px pos : Pos} {scope : Scope} {cl : List (Str × Addr)} {n : Nat} (p : Int → Bool) (f : Int → Int)
    (hh : A.handled = none) (hclos : closureFor scope env = pure cl) (hcell : ∀ y ∈ scope.names, y.2 ≠ .cell) (hkind : scope.kind = .function)
    (hnames : ∀ y ∈ scope.names, y.2 = .local → scope.names.lookup y.1 = some .local) (hx : scope.names.lookup x = some .local)
    (hi : Ev prog w A env iter h (fun y h' => ∃ r t u v, y = .ref r ∧ IsRange h' r 0 n 1 t u v)) (hsz : n ≤ 1000)
    (hc : ∀ C (k : Nat) t H m, Ext h H → k < n → H.Ns C m → m x = some (.int k t) → EvT prog w A (compEnvC scope cl C env) c H (p k))
    (he : ∀ C (k : Nat) t H m, Ext h H → k < n → p k = true → H.Ns C m → m x = some (.int k t) → Ev prog w A (compEnvC scope cl C env) elt H (IsI (f k)))
    (hs : ∀ x, foldedSetIterable iter env x = pure x) :
    Ev prog w A env (.ListComp elt [⟨.Name x px, iter, [c], 0⟩] scope pos) h (NewI h (((rng n).filter p).map f)) := fun s Q E kk hQ => by
  let g : Value → Int := fun v => match v with | .int k _ => k | _ => 0
  refine wpAny_ListComp_free (fun v => p (g v)) (fun v y => ∃ t, y = .int (f (g v)) t) hclos hcell hkind hnames hx (hi s _ _ kk fun y s1 hy k1 => ?_) hs
  obtain ⟨r, t, u, v, rfl, hr⟩ := hy
  have hn : Builtin.Range.rangeSize 0 (n : Int) 1 = (n : Int) := by rw [rangeSize_nat]; omega
  refine wpAny_pyIter_range hr (small_one (by omega) (by omega) (by omega) (by omega)) ⟨s1.heap.objs.size, [s1.heap.objs.size], [s1.heap.objs.size], n, _, _, rfl, (Walks.range hh _ 0 1 n).bound, ?_, (by show IsRangeIter _ _ _ _ _; rw [hn]; simpa using Heap.get?_push_size _ rfl), ?_, ⟨?_, ?_⟩, ?_⟩
  · rw [sizeLine_eq]; omega
  · intro b hb; rw [List.mem_singleton.mp hb, Heap.size_push]; exact Nat.lt_succ_self _
  · intro C i v s3 m3 E' _ hP hn3 hm hk _
    obtain ⟨hin, t3, rfl⟩ := hP
    have e0 : (0 : Int) + (i : Int) * 1 = (i : Int) := by omega
    rw [e0] at hm
    have e1 : Ext h s3.heap := fun b o e => by
      have e2 := kext k1 _ _ (kk _ _ e)
      exact hk b o (fun hb => absurd (Heap.lt_size e2) (by rw [List.mem_singleton.mp hb]; exact Nat.lt_irrefl _)) (Heap.get?_push_of_some _ e2)
    refine wpAny_tests_one (hc C i t3 s3.heap m3 e1 hin hn3 hm s3 _ _ (Ext.refl _) fun s4 k4 => ⟨?_, k4⟩)
    show p i = p (0 + (i : Int) * 1)
    rw [e0]
  · intro C i v s3 m3 E' _ hP hp hn3 hm hk _
    obtain ⟨hin, t3, rfl⟩ := hP
    have e0 : (0 : Int) + (i : Int) * 1 = (i : Int) := by omega
    rw [e0] at hm
    have hp' : p (i : Int) = true := by rw [← e0]; exact hp
    have e1 : Ext h s3.heap := fun b o e => by
      have e2 := kext k1 _ _ (kk _ _ e)
      exact hk b o (fun hb => absurd (Heap.lt_size e2) (by rw [List.mem_singleton.mp hb]; exact Nat.lt_irrefl _)) (Heap.get?_push_of_some _ e2)
    refine he C i t3 s3.heap m3 e1 hin hp' hn3 hm s3 _ _ (Ext.refl _) fun y s4 hy k4 => ⟨?_, k4⟩
    show ∃ t, y = .int (f (0 + (i : Int) * 1)) t
    rw [e0]; exact hy
  · intro D h' tk ys vs' hD hl' hpl hlen hP hF hk
    have e1 : Ext s1.heap h' := fun b o e => hk b o (fun hb => absurd (Heap.lt_size e) (by rw [List.mem_singleton.mp hb]; exact Nat.lt_irrefl _)) (Heap.get?_push_of_some _ e)
    have ev : vs'.map g = rng n := by
      unfold rng
      apply List.ext_getElem?
      intro j
      by_cases hj : j < vs'.length
      · obtain ⟨hjn, t3, e3⟩ := hP j vs'[j] (by simp [hj])
        have e0 : (0 : Int) + (j : Int) * 1 = (j : Int) := by omega
        rw [e0] at e3
        simp [hj, hjn, e3, g]
      · have h2 : n ≤ j := by omega
        rw [List.getElem?_eq_none (by rw [List.length_map]; omega), List.getElem?_eq_none (by rw [List.length_map, List.length_range]; exact h2)]
    have hI := paired_ints (f := fun v => f (g v)) hF
    have e2 : (vs'.filter fun v => p (g v)).map (fun v => f (g v)) = ((rng n).filter p).map f := by
      rw [← ev, List.filter_map, List.map_map]; rfl
    rw [e2] at hI
    refine hQ _ _ ⟨D, ys.toList, rfl, ?_, plain_lst hpl, hI⟩ (kthen k1 (kof s1 e1))
    cases q : h.get? D with
    | none => rfl
    | some o => have := Heap.get?_push_of_some { cls := .type "range_iterator", data := .fields #[rawInt 0, rawInt (Builtin.Range.rangeSize 0 (n : Int) 1), rawInt 1] } (kext k1 _ _ (kk _ _ q)); rw [hD] at this; cases this
end
end Mine
namespace Mine
section
variable {prog : Program} {w : World} {A : Around} {env : Env} {h : Heap} {E : Value → Shared → Prop} {s : Shared}

theorem add_raw {l b : Addr} {vs ws : List Value} {Q : Value → Shared → Prop} (hl : s.heap.IsList l vs.toArray) (hb : s.heap.IsList b ws.toArray)
    (h : Q (.ref s.heap.objs.size) { s with heap := s.heap.push (listOf (vs ++ ws).toArray 0) }) (hsz : vs.length + ws.length ≤ sizeLine) :
    wpAny (model prog w) A (binaryOp .Add (.ref l) (.ref b)) Q E s := by
  obtain ⟨⟨cls, dd, data, sl⟩, ho, hc, n, hd⟩ := id hl
  obtain ⟨⟨cls2, dd2, data2, sl2⟩, ho2, hc2, n2, hd2⟩ := id hb
  simp only at hc hd hc2 hd2
  subst hc hd hc2 hd2
  have e : vs.toArray ++ ws.toArray = (vs ++ ws).toArray := by simp
  refine concat_meets ⟨_, ho, rfl⟩ ⟨_, ho2, rfl⟩ noFill_list_add seq_list_add PySem.F.slot_list_add PySem.F.entry_list_add (PySem.F.args_list_add_2 _ _) (list_addW l b vs.toArray ws.toArray n n2 dd dd2 sl sl2 (by simpa using hsz)) ⟨ho, ho2, ?_⟩
  rw [e]
  exact h
theorem lst_push (h : Heap) (vs : List Value) (c : Nat) : LST (h.push (listOf vs.toArray c)) h.objs.size vs := ⟨c, Heap.get?_push_size _ rfl⟩
theorem ext_push (h : Heap) (o : Obj) : Ext h (h.push o) := fun _ _ e => Heap.get?_push_of_some _ e
theorem new_of {h H : Heap} (k : Ext h H) : h.get? H.objs.size = none := by
  cases q : h.get? H.objs.size with
  | none => rfl
  | some o => exact absurd (Heap.lt_size (k _ _ q)) (Nat.lt_irrefl _)
/-- D lies above all that h holds -/
def Abv (h : Heap) (D : Addr) : Prop := ∀ x o, h.get? x = some o → @LT.lt Nat _ x D
theorem abv_of {h H : Heap} (k : Ext h H) : Abv h H.objs.size := fun _ _ e => Heap.lt_size (k _ _ e)
theorem Abv.ext {h h' : Heap} {D : Addr} (x : Abv h' D) (k : Ext h h') : Abv h D := fun a o e => x a o (k a o e)
theorem ev_addI {l r : Expr} {pos : Pos} {ns ms : List Int} (hl : Ev prog w A env l h (HasI ns)) (hr : Ev prog w A env r h (HasI ms)) (hsz : ns.length + ms.length ≤ 1000) : Ev prog w A env (.BinOp l .Add r pos) h (NewI h (ns ++ ms)) :=
  ev_bin hl hr (mHI ns) fun _ _ s _ _ k ha hb hQ => by
    obtain ⟨D, vs, rfl, h1, i1⟩ := ha; obtain ⟨D2, us, rfl, h2, i2⟩ := hb
    refine add_raw h1.isList h2.isList (hQ _ _ ⟨_, _, rfl, new_of k, lst_push _ _ _, i1.append i2⟩ (kof s (tk := s.toks) (ext_push _ _))) (by rw [i1.length, i2.length, sizeLine_eq]; omega)
theorem ev_addB {l r : Expr} {pos : Pos} {ns ms : List Bool} (hl : Ev prog w A env l h (HasB ns)) (hr : Ev prog w A env r h (HasB ms)) (hsz : ns.length + ms.length ≤ 1000) : Ev prog w A env (.BinOp l .Add r pos) h (NewB h (ns ++ ms)) :=
  ev_bin hl hr (mHB ns) fun _ _ s _ _ k ha hb hQ => by
    obtain ⟨D, rfl, h1⟩ := ha; obtain ⟨D2, rfl, h2⟩ := hb
    refine add_raw h1.isList h2.isList (hQ _ _ ⟨_, rfl, new_of k, by rw [List.map_append]; exact lst_push _ _ _⟩ (kof s (tk := s.toks) (ext_push _ _))) (by rw [List.length_map, List.length_map, sizeLine_eq]; omega)

theorem ev_ifexp {t b o : Expr} {pos : Pos} {c : Bool} {P : Value → Heap → Prop} (ht : EvT prog w A env t h c) (h1 : c = true → Ev prog w A env b h P) (h2 : c = false → Ev prog w A env o h P) : Ev prog w A env (.IfExp t b o pos) h P := fun s Q E kk hQ => by
  refine wpAny_IfExp (ht s _ _ kk fun s1 k1 => ?_)
  cases c with
  | true => exact h1 rfl s1 _ _ (kk.trans (kext k1)) fun y s2 p k2 => hQ y s2 p (kthen k1 k2)
  | false => exact h2 rfl s1 _ _ (kk.trans (kext k1)) fun y s2 p k2 => hQ y s2 p (kthen k1 k2)
theorem evT_or2 {t1 t2 : Expr} {pos : Pos} {b1 b2 : Bool} (h1 : EvT prog w A env t1 h b1) (h2 : b1 = false → EvT prog w A env t2 h b2) : EvT prog w A env (.BoolOp .Or [t1, t2] pos) h (b1 || b2) := fun s Q E kk hQ => by
  refine wpAny_isTrue_BoolOp (wpAny_allTrue_Or_cons (h1 s _ _ kk fun s1 k1 => ?_))
  cases b1 with
  | true => exact hQ s1 k1
  | false =>
    refine wpAny_allTrue_Or_cons (h2 rfl s1 _ _ (kk.trans (kext k1)) fun s2 k2 => ?_)
    cases b2 with
    | true => exact hQ s2 (kthen k1 k2)
    | false => exact wpAny_allTrue_Or_nil (hQ s2 (kthen k1 k2))

theorem ev_list0 {pos : Pos} : Ev prog w A env (.List [] pos) h (fun y h' => ∃ D, y = .ref D ∧ Abv h D ∧ LST h' D []) := fun s Q E kk hQ =>
  wpAny_List_spliced (Calls.spliced_nil ⟨Nat.zero_le _, hQ _ _ ⟨_, rfl, abv_of kk, lst_push _ [] 0⟩ (kof s (tk := s.toks) (ext_push _ _))⟩)
theorem ev_list1 {e : Expr} {pos : Pos} {P : Value → Heap → Prop} (he : Ev prog w A env e h P) (mP : ∀ y h1 h2, Ext h1 h2 → P y h1 → P y h2) (ht : backTo pos (starEach [e] env) = [(false, eval e env)]) :
    Ev prog w A env (.List [e] pos) h (fun y h' => ∃ D v, y = .ref D ∧ Abv h D ∧ LST h' D [v] ∧ P v h') := fun s Q E kk hQ => by
  refine wpAny_List_spliced ?_
  rw [ht]
  refine Calls.spliced_cons (he s _ _ kk fun y s1 p k1 => Calls.spliced_nil ⟨by rw [sizeLine_eq]; show 1 ≤ _; omega, ?_⟩)
  exact hQ _ _ ⟨_, y, rfl, abv_of (kk.trans (kext k1)), lst_push _ [y] 0, mP _ _ _ (ext_push _ _) p⟩ (kthen k1 (kof s1 (tk := s1.toks) (ext_push _ _)))
theorem ev_list2 {e f : Expr} {pos : Pos} {P R : Value → Heap → Prop} (he : Ev prog w A env e h P) (hf : Ev prog w A env f h R) (mP : ∀ y h1 h2, Ext h1 h2 → P y h1 → P y h2) (mR : ∀ y h1 h2, Ext h1 h2 → R y h1 → R y h2) (ht : backTo pos (starEach [e, f] env) = [(false, eval e env), (false, eval f env)]) :
    Ev prog w A env (.List [e, f] pos) h (fun y h' => ∃ D u v, y = .ref D ∧ Abv h D ∧ LST h' D [u, v] ∧ P u h' ∧ R v h') := fun s Q E kk hQ => by
  refine wpAny_List_spliced ?_
  rw [ht]
  refine Calls.spliced_cons (he s _ _ kk fun y s1 p k1 => Calls.spliced_cons (hf s1 _ _ (kk.trans (kext k1)) fun z s2 r k2 => Calls.spliced_nil ⟨by rw [sizeLine_eq]; show 2 ≤ _; omega, ?_⟩))
  exact hQ _ _ ⟨_, y, z, rfl, abv_of ((kk.trans (kext k1)).trans (kext k2)), lst_push _ [y, z] 0, mP _ _ _ ((kext k2).trans (ext_push _ _)) p, mR _ _ _ (ext_push _ _) r⟩ (kthen (kthen k1 k2) (kof s2 (tk := s2.toks) (ext_push _ _)))

theorem ev_range1 {e : Expr} {x : Str} {np pos : Pos} {n : Int} (hx : Ev prog w A env (.Name x np) h (fun y _ => y = .type "range")) (he : Ev prog w A env e h (IsI n)) (ht : starEach [e] env = [(false, eval e env)]) :
    Ev prog w A env (.Call (.Name x np) [e] [] pos) h (fun y h' => ∃ r t u v, y = .ref r ∧ h.get? r = none ∧ IsRange h' r 0 n 1 t u v) := fun s Q E kk hQ => by
  refine wpAny_Call_ofName (hx s _ _ kk fun f s1 hf k1 => ?_)
  subst hf
  refine Pv.callWith_type1 ?_ ht rfl
  rw [show backTo pos (starEach [e] env) = [(false, eval e env)] by rw [ht]; rfl]
  refine Calls.spliced_cons (he s1 _ _ (kk.trans (kext k1)) fun y s2 hy k2 => Calls.spliced_nil ?_)
  obtain ⟨t, rfl⟩ := hy
  exact call_range_1 (hQ _ _ ⟨_, _, _, _, rfl, new_of ((kk.trans (kext k1)).trans (kext k2)), Heap.get?_push_size _ rfl⟩ (kthen (kthen k1 k2) (kof s2 (ext_push _ _))))
theorem ev_range2 {e f : Expr} {x : Str} {np pos : Pos} {a n : Int} (hx : Ev prog w A env (.Name x np) h (fun y _ => y = .type "range")) (he : Ev prog w A env e h (IsI a)) (hf : Ev prog w A env f h (IsI n)) (ht1 : starEach [e, f] env = (false, eval e env) :: starEach [f] env) (ht2 : starEach [f] env = [(false, eval f env)]) :
    Ev prog w A env (.Call (.Name x np) [e, f] [] pos) h (fun y h' => ∃ r t u v, y = .ref r ∧ h.get? r = none ∧ IsRange h' r a n 1 t u v) := fun s Q E kk hQ => by
  refine wpAny_Call_ofName (hx s _ _ kk fun g s1 hg k1 => ?_)
  subst hg
  refine Pv.callWith_type1 ?_ ht1 (by rw [ht2]; rfl)
  rw [show backTo pos (starEach [e, f] env) = [(false, eval e env), (false, eval f env)] by rw [ht1, ht2]; rfl]
  refine Calls.spliced_cons (he s1 _ _ (kk.trans (kext k1)) fun y s2 hy k2 => Calls.spliced_cons (hf s2 _ _ ((kk.trans (kext k1)).trans (kext k2)) fun z s3 hz k3 => Calls.spliced_nil ?_))
  obtain ⟨t, rfl⟩ := hy
  obtain ⟨u, rfl⟩ := hz
  exact call_range_2 (hQ _ _ ⟨_, _, _, _, rfl, new_of (((kk.trans (kext k1)).trans (kext k2)).trans (kext k3)), Heap.get?_push_size _ rfl⟩ (kthen (kthen (kthen k1 k2) k3) (kof s3 (ext_push _ _))))
theorem ev_len {e : Expr} {x : Str} {np pos : Pos} {l : Addr} {n : Nat} (hx : Ev prog w A env (.Name x np) h (fun y _ => y = .builtin "len")) (he : Ev prog w A env e h (fun y h' => y = .ref l ∧ ∃ vs : List Value, h'.IsList l vs.toArray ∧ vs.length = n)) (hn : n < 2 ^ 60) (ht : starEach [e] env = [(false, eval e env)]) :
    Ev prog w A env (.Call (.Name x np) [e] [] pos) h (IsI n) := fun s Q E kk hQ => by
  refine wpAny_Call_ofName (hx s _ _ kk fun f s1 hf k1 => ?_)
  subst hf
  rw [show backTo pos (starEach [e] env) = [(false, eval e env)] by rw [ht]; rfl]
  refine Calls.callWith_builtin rfl (Calls.evalArgs_plain (Calls.spliced_cons (he s1 _ _ (kk.trans (kext k1)) fun y s2 hy k2 => Calls.spliced_nil ?_)))
  obtain ⟨rfl, vs, hl, hv⟩ := hy
  refine Calls.call_len_list hl (by rw [List.size_toArray]; omega) ?_
  rw [List.size_toArray, hv]
  exact hQ _ _ ⟨_, rfl⟩ (kthen (kthen k1 k2) (kof s2 (Ext.refl _)))
end

section
variable {prog : Program} {w : World} {A : Around} {env : Env} {E : Value → Shared → Prop} {s : Shared}
theorem ex_asg {x : Str} {value : Expr} {pos' pos : Pos} {P : Value → Heap → Prop} {m : Str → Option Value} {Q : Flow → Shared → Prop} (hv : Ev prog w A env value s.heap P) (hn : s.heap.Ns env.locals m)
    (h : ∀ y h' h2 tk, P y h' → Ext s.heap h' → h2.Ns env.locals (fun z => if z = x then some y else m z) → Heap.SameBut env.locals h' h2 → Q .next { s with heap := h2, toks := tk })
    (hl : env.kindOf x = some .local) (hp : (env.scope.kind == .class || (env.scope.kind == .module && env.locals != env.globals)) = false) (hs : swapsWith value (some (.Name x pos')) pos.line env = pure false) :
    wpAny (model prog w) A (exec (.Assign [.Name x pos'] value pos) env) Q E s := by
  refine wpAny_Assign_Name (hv s _ _ (Ext.refl _) fun y s1 p k1 => ?_) hs
  obtain ⟨h1, t1, rfl, e1⟩ := k1
  exact wpAny_storeName_local hl (hn.at' fun o e => e1 _ o e) (fun h2 hn2 hs2 => h y h1 h2 _ p e1 hn2 hs2) hp
theorem ex_asgC {x : Str} {value : Expr} {pos' pos : Pos} {P : Value → Heap → Prop} {c : Addr} {v0 : Option Value} {Q : Flow → Shared → Prop} (hv : Ev prog w A env value s.heap P) (hc : s.heap.IsCell c v0)
    (h : ∀ y h' h2 tk, P y h' → Ext s.heap h' → h2.IsCell c (some y) → Heap.SameBut c h' h2 → Q .next { s with heap := h2, toks := tk })
    (hcl : env.cells.lookup x = some c) (hl : env.kindOf x = some .cell) (hk : env.scope.kind = .function) (hs : swapsWith value (some (.Name x pos')) pos.line env = pure false) :
    wpAny (model prog w) A (exec (.Assign [.Name x pos'] value pos) env) Q E s := by
  refine wpAny_Assign_Name (hv s _ _ (Ext.refl _) fun y s1 p k1 => ?_) hs
  obtain ⟨h1, t1, rfl, e1⟩ := k1
  exact wpAny_storeName_cell hk hl hcl (hc.keeps e1) fun h2 hn2 hs2 => h y h1 h2 _ p e1 hn2 hs2
theorem ex_append {o elt : Expr} {apos pos spos : Pos} {l : Addr} {vs : List Value} {P : Value → Heap → Prop} {Q : Flow → Shared → Prop} (ho : Ev prog w A env o s.heap (IsR l)) (he : Ev prog w A env elt s.heap P) (hl : LST s.heap l vs) (hsz : vs.length ≤ 1000)
    (h : ∀ y h' h2 tk, P y h' → Ext s.heap h' → LST h2 l (vs ++ [y]) → Heap.SameBut l h' h2 → Q .next { s with heap := h2, toks := tk })
    (hbase : attributeBase o "append" env (eval o env) = eval o env) (ht : starEach [elt] env = [(false, eval elt env)]) (hline : (apos.endLine == pos.line) = true) (hi : interactive env = false) :
    wpAny (model prog w) A (exec (.Expr (.Call (.Attribute o "append" apos) [elt] [] pos) spos) env) Q E s := by
  refine wpAny_Expr (wpAny_Call_append hbase (by rw [show backTo pos (starEach [elt] env) = [(false, eval elt env)] by rw [ht]; rfl]; rfl) hline (by rw [ht]; rfl) (ho s _ _ (Ext.refl _) fun y s1 hy k1 => ?_)) hi rfl
  subst hy
  have hl1 := hl.ext (kext k1)
  obtain ⟨c1, g1⟩ := hl1
  refine ⟨l, vs.toArray, rfl, ⟨_, c1, g1, rfl, rfl, rfl⟩, he s1 _ _ (kext k1) fun z s2 p k2 => ?_⟩
  obtain ⟨h2, t2, rfl, e2⟩ := kthen k1 k2
  have g2 : h2.get? l = some (listOf vs.toArray c1) := kext k2 _ _ g1
  refine wpAny_list_append_plain (items := vs.toArray) ⟨c1, g2⟩ (fun h3 hl3 hs3 => ?_) (by rw [List.size_toArray, sizeLine_eq]; omega)
  refine h z h2 h3 _ p e2 ?_ hs3
  obtain ⟨n3, e3⟩ := hl3
  exact ⟨n3, by rw [e3]; simp⟩
theorem ex_if {t : Expr} {b o : List Stmt} {pos : Pos} {c : Bool} {Q : Flow → Shared → Prop} (ht : EvT prog w A env t s.heap c)
    (h : ∀ h' tk, Ext s.heap h' → wpAny (model prog w) A (execs (if c then b else o) env) Q E { s with heap := h', toks := tk }) : wpAny (model prog w) A (exec (.If t b o pos) env) Q E s := by
  refine wpAny_If (ht s _ _ (Ext.refl _) fun s1 k1 => ?_)
  obtain ⟨h1, t1, rfl, e1⟩ := k1
  have := h h1 t1 e1
  cases c <;> exact this
end
end Mine
namespace Mine
def stAt (l : List Stmt) (i : Nat) : Stmt := match l[i]? with | some s => s | none => .Pass ⟨0, 0, 0, 0⟩
def defBody : Stmt → List Stmt | .FunctionDef _ _ b _ _ _ _ _ _ _ => b | _ => []
def defScope : Stmt → Scope | .FunctionDef _ _ _ _ _ _ s _ _ _ => s | _ => default
def forBody : Stmt → List Stmt | .For _ _ b _ _ => b | _ => []
def whBody : Stmt → List Stmt | .While _ b _ _ => b | _ => []
def whTest : Stmt → Expr | .While t _ _ _ => t | _ => default
abbrev PR : Program := PySem.Challenge.rw_ik0170_01.row.prog
def lawD : Stmt := stAt PySem.Challenge.pw_ik0170_01.main.body 6
def aloneD : Stmt := stAt PySem.Challenge.pw_ik0170_01.main.body 5
def lawB : List Stmt := defBody lawD
def lawScope : Scope := defScope lawD
def aB : List Stmt := forBody (stAt lawB 6)
def bB : List Stmt := forBody (stAt aB 2)
abbrev lawNames := lawScope.names
abbrev lawMore := lawScope.more
abbrev envL (L fa : Addr) (cd : Value) : Env := envA (Str.ofString "law") lawNames lawMore L fa cd
abbrev AL (L fa : Addr) (cd : Value) : Around := callerA.deeper (envL L fa cd)
abbrev cellsL (L : Addr) : List (Str × Addr) := cellsFrom (L + 1) lawNames []
theorem lawB_len : lawB.length = 8 := by rfl
theorem bB_len : bB.length = 7 := by rfl
theorem k_size (L fa : Addr) (cd : Value) : (envL L fa cd).kindOf (Str.ofString "size") = some .local := by rfl
theorem k_worths (L fa : Addr) (cd : Value) : (envL L fa cd).kindOf (Str.ofString "worths") = some .cell := by rfl
theorem c_worths (L : Addr) : (cellsL L).lookup (Str.ofString "worths") = some (L + 1 + 1) := by rfl
theorem c_told (L : Addr) : (cellsL L).lookup (Str.ofString "told") = some (L + 1 + 1 + 1 + 1 + 1 + 1) := by rfl
abbrev NLt (a b : Nat) : Prop := a < b
abbrev NLe (a b : Nat) : Prop := a ≤ b
theorem cells_le (L : Nat) : ∀ p ∈ cellsL L, NLt L p.2 ∧ NLe p.2 (L + 6) := by
  have e : cellsL L = [(Str.ofString "told", L + 1 + 1 + 1 + 1 + 1 + 1), (Str.ofString "b", L + 1 + 1 + 1 + 1 + 1), (Str.ofString "a", L + 1 + 1 + 1 + 1), (Str.ofString "lost", L + 1 + 1 + 1), (Str.ofString "worths", L + 1 + 1), (Str.ofString "number", L + 1)] := by rfl
  intro p hp
  rw [e] at hp
  simp only [List.mem_cons, List.not_mem_nil, or_false] at hp
  rcases hp with rfl | rfl | rfl | rfl | rfl | rfl <;> (dsimp only [NLt, NLe]; omega)
theorem g_filter (w : World) : nsIn (hd.heap_39 w.params) mainGlobals (Str.ofString "_filter") = some (some (.ref 58)) := by kernel_rfl
theorem g_alone (w : World) : nsIn (hd.heap_39 w.params) mainGlobals (Str.ofString "_law_alone") = some (some (.ref 63)) := by kernel_rfl
theorem g_range (w : World) : nsIn (hd.heap_39 w.params) mainGlobals (Str.ofString "range") = some none := by kernel_rfl
theorem g_len (w : World) : nsIn (hd.heap_39 w.params) mainGlobals (Str.ofString "len") = some none := by kernel_rfl

section
variable {w : World} {h₀ h : Heap} {L fa : Addr} {cd : Value} {mg mb : Str → Option Value} {mean : ExcName → Option Value} {m : Str → Option Value}
theorem evRange (T : Top hd.view_39 (looseW hd.view_39 lookL) mean mg mb h₀) (KX : (hd.heap_39 w.params).In h₀) (F : Fr h₀ L h m) {pos : Pos} : Ev PR w (AL L fa cd) (envL L fa cd) (.Name (Str.ofString "range") pos) h (fun y _ => y = .type "range") :=
  ev_boot (T.g.keeps F.keep) (mg_none_of KX T.g (g_range w)) (T.b.keeps F.keep) ((T.builtins _ (by decide)).trans boot_range) rfl rfl (by decide)
theorem evLen (T : Top hd.view_39 (looseW hd.view_39 lookL) mean mg mb h₀) (KX : (hd.heap_39 w.params).In h₀) (F : Fr h₀ L h m) {pos : Pos} : Ev PR w (AL L fa cd) (envL L fa cd) (.Name (Str.ofString "len") pos) h (fun y _ => y = .builtin "len") :=
  ev_boot (T.g.keeps F.keep) (mg_none_of KX T.g (g_len w)) (T.b.keeps F.keep) ((T.builtins _ (by decide)).trans (by first | exact boot_len | exact Boot.len | decide +kernel)) rfl rfl (by decide)
theorem evFilter (T : Top hd.view_39 (looseW hd.view_39 lookL) mean mg mb h₀) (KX : (hd.heap_39 w.params).In h₀) (F : Fr h₀ L h m) {pos : Pos} : Ev PR w (AL L fa cd) (envL L fa cd) (.Name (Str.ofString "_filter") pos) h (fun y _ => y = .ref 58) :=
  ev_glob (T.g.keeps F.keep) (mg_of KX T.g (g_filter w)) rfl rfl (by decide)
theorem evAlone (T : Top hd.view_39 (looseW hd.view_39 lookL) mean mg mb h₀) (KX : (hd.heap_39 w.params).In h₀) (F : Fr h₀ L h m) {pos : Pos} : Ev PR w (AL L fa cd) (envL L fa cd) (.Name (Str.ofString "_law_alone") pos) h (fun y _ => y = .ref 63) :=
  ev_glob (T.g.keeps F.keep) (mg_of KX T.g (g_alone w)) rfl rfl (by decide)
end
end Mine
namespace Mine
theorem xor_low : ∀ x : Fin 8, ∀ y : Fin 8, ∀ v : Fin 8, v.val < x.val ^^^ y.val → (v.val ^^^ y.val < x.val ∧ (v.val ^^^ y.val) ^^^ y.val = v.val) ∨ (v.val ^^^ x.val < y.val ∧ x.val ^^^ (v.val ^^^ x.val) = v.val) := by decide +kernel
theorem xor_dif : ∀ x : Fin 8, ∀ x' : Fin 8, ∀ y : Fin 8, x'.val ≠ x.val → x'.val ^^^ y.val ≠ x.val ^^^ y.val ∧ y.val ^^^ x'.val ≠ y.val ^^^ x.val := by decide +kernel
theorem xor_in8 : ∀ x : Fin 8, ∀ y : Fin 8, x.val ^^^ y.val < 8 := by decide +kernel
theorem xor_in4 : ∀ x : Fin 4, ∀ y : Fin 4, x.val ^^^ y.val < 4 := by decide +kernel
theorem bx8 : ∀ x : Fin 8, ∀ y : Fin 8, Builtin.bitXor (x.val : Int) (y.val : Int) = ((x.val ^^^ y.val : Nat) : Int) := by decide +kernel
theorem bitXor_nat {x y : Nat} (hx : x < 8) (hy : y < 8) : Builtin.bitXor (x : Int) (y : Int) = ((x ^^^ y : Nat) : Int) := bx8 ⟨x, hx⟩ ⟨y, hy⟩

/-- X a is the least number that no X r, r of G a, is -/
structure Mex (X : Nat → Nat) (G : Nat → List Nat) (a : Nat) : Prop where
  all : ∀ v, v < X a → ∃ r ∈ G a, X r = v
  none : ∀ r ∈ G a, X r ≠ X a
theorem mex_le {X : Nat → Nat} {G : Nat → List Nat} {n : Nat} (hG : ∀ a, a < n → ∀ r ∈ G a, r < a) (hX : ∀ a, a < n → Mex X G a) : ∀ a, a < n → X a ≤ a := by
  intro a
  induction a using Nat.strongRecOn with
  | ind a ih =>
    intro ha
    apply Nat.le_of_not_lt
    intro hlt
    obtain ⟨r, hr, e⟩ := (hX a ha).all a hlt
    have h1 := hG a ha r hr
    have h2 := ih r h1 (Nat.lt_trans h1 ha)
    omega
def toldOf (X Y : Nat → Nat) (G0 G1 : Nat → List Nat) (a b : Nat) : List Int := (G0 a).map (fun r => ((X r ^^^ Y b : Nat) : Int)) ++ (G1 b).map (fun r => ((X a ^^^ Y r : Nat) : Int))
def endsOf (X Y : Nat → Nat) (G0 G1 : Nat → List Nat) (a b : Nat) : List Bool := (G0 a).map (fun r => decide (X r ^^^ Y b = 0)) ++ (G1 b).map (fun r => decide (X a ^^^ Y r = 0))
section
variable {X Y : Nat → Nat} {G0 G1 : Nat → List Nat} {n a b : Nat}
theorem told_not (hX8 : ∀ i, i < n → X i < 8) (hY8 : ∀ i, i < n → Y i < 8) (g0 : ∀ a, a < n → ∀ r ∈ G0 a, r < a) (g1 : ∀ a, a < n → ∀ r ∈ G1 a, r < a) (hX : Mex X G0 a) (hY : Mex Y G1 b) (ha : a < n) (hb : b < n) : ((X a ^^^ Y b : Nat) : Int) ∉ toldOf X Y G0 G1 a b := by
  intro hm
  rcases List.mem_append.mp hm with hm | hm
  · obtain ⟨r, hr, e⟩ := List.mem_map.mp hm
    have hrn := Nat.lt_trans (g0 a ha r hr) ha
    exact (xor_dif ⟨X a, hX8 a ha⟩ ⟨X r, hX8 r hrn⟩ ⟨Y b, hY8 b hb⟩ (hX.none r hr)).1 (Int.ofNat.inj e)
  · obtain ⟨r, hr, e⟩ := List.mem_map.mp hm
    have hrn := Nat.lt_trans (g1 b hb r hr) hb
    exact (xor_dif ⟨Y b, hY8 b hb⟩ ⟨Y r, hY8 r hrn⟩ ⟨X a, hX8 a ha⟩ (hY.none r hr)).2 (Int.ofNat.inj e)
theorem told_all (hX8 : ∀ i, i < n → X i < 8) (hY8 : ∀ i, i < n → Y i < 8) (hX : Mex X G0 a) (hY : Mex Y G1 b) (ha : a < n) (hb : b < n) (v : Nat) (hv : v < X a ^^^ Y b) : (v : Int) ∈ toldOf X Y G0 G1 a b := by
  have h8 : v < 8 := Nat.lt_trans hv (xor_in8 ⟨X a, hX8 a ha⟩ ⟨Y b, hY8 b hb⟩)
  rcases xor_low ⟨X a, hX8 a ha⟩ ⟨Y b, hY8 b hb⟩ ⟨v, h8⟩ hv with ⟨h1, h2⟩ | ⟨h1, h2⟩
  · obtain ⟨r, hr, e⟩ := hX.all _ h1
    exact List.mem_append_left _ (List.mem_map.mpr ⟨r, hr, by rw [e]; exact congrArg Int.ofNat h2⟩)
  · obtain ⟨r, hr, e⟩ := hY.all _ h1
    exact List.mem_append_right _ (List.mem_map.mpr ⟨r, hr, by rw [e]; exact congrArg Int.ofNat h2⟩)
theorem outs_told (hX8 : ∀ i, i < n → X i < 8) (hY8 : ∀ i, i < n → Y i < 8) (g0 : ∀ a, a < n → ∀ r ∈ G0 a, r < a) (g1 : ∀ a, a < n → ∀ r ∈ G1 a, r < a) (hX : Mex X G0 a) (hY : Mex Y G1 b) (ha : a < n) (hb : b < n) (k : Nat) (hk : X a ^^^ Y b < k) :
    ∃ l, outs (toldOf X Y G0 G1 a b) 0 k = ((X a ^^^ Y b : Nat) : Int) :: l := by
  refine ⟨_, outs_next _ k 0 _ (by omega) (by omega) (fun z h1 h2 => ?_) (told_not hX8 hY8 g0 g1 hX hY ha hb)⟩
  have := told_all hX8 hY8 hX hY ha hb z.toNat (by omega)
  rwa [show ((z.toNat : Nat) : Int) = z by omega] at this
theorem ends_is (hX8 : ∀ i, i < n → X i < 8) (hY8 : ∀ i, i < n → Y i < 8) (g0 : ∀ a, a < n → ∀ r ∈ G0 a, r < a) (g1 : ∀ a, a < n → ∀ r ∈ G1 a, r < a) (hX : Mex X G0 a) (hY : Mex Y G1 b) (ha : a < n) (hb : b < n) :
    (!(endsOf X Y G0 G1 a b).any (· == true)) = decide (X a ^^^ Y b = 0) := by
  have key : (endsOf X Y G0 G1 a b).any (· == true) = true ↔ (0 : Int) ∈ toldOf X Y G0 G1 a b := by
    rw [List.any_eq_true]
    constructor
    · rintro ⟨y, hy, e⟩
      rw [beq_iff_eq] at e; subst e
      rcases List.mem_append.mp hy with hy | hy
      · obtain ⟨r, hr, e⟩ := List.mem_map.mp hy
        exact List.mem_append_left _ (List.mem_map.mpr ⟨r, hr, by rw [of_decide_eq_true e]; rfl⟩)
      · obtain ⟨r, hr, e⟩ := List.mem_map.mp hy
        exact List.mem_append_right _ (List.mem_map.mpr ⟨r, hr, by rw [of_decide_eq_true e]; rfl⟩)
    · intro h0
      refine ⟨true, ?_, rfl⟩
      rcases List.mem_append.mp h0 with hy | hy
      · obtain ⟨r, hr, e⟩ := List.mem_map.mp hy
        exact List.mem_append_left _ (List.mem_map.mpr ⟨r, hr, decide_eq_true (by omega)⟩)
      · obtain ⟨r, hr, e⟩ := List.mem_map.mp hy
        exact List.mem_append_right _ (List.mem_map.mpr ⟨r, hr, decide_eq_true (by omega)⟩)
  by_cases hz : X a ^^^ Y b = 0
  · have h1 : (endsOf X Y G0 G1 a b).any (· == true) = false := by
      cases q : (endsOf X Y G0 G1 a b).any (· == true) with
      | false => rfl
      | true => have := key.mp q; have h2 := told_not hX8 hY8 g0 g1 hX hY ha hb; rw [hz] at h2; exact absurd this h2
    rw [h1, decide_eq_true hz]; rfl
  · have h1 : (endsOf X Y G0 G1 a b).any (· == true) = true := key.mpr (told_all hX8 hY8 hX hY ha hb 0 (by omega))
    rw [h1, decide_eq_false hz]; rfl
end
theorem outs_filter (ns : List Int) : ∀ (k : Nat) (i : Int), outs ns i k = ((List.range k).map fun j : Nat => i + (j : Int)).filter fun z => !ns.any (· == z)
  | 0, _ => rfl
  | k + 1, i => by
    rw [outs_succ, List.range_succ_eq_map, List.map_cons, List.map_map, List.filter_cons, outs_filter ns k (i + 1)]
    have e : (fun j : Nat => i + 1 + (j : Int)) = (fun j : Nat => i + (j : Int)) ∘ Nat.succ := by funext j; simp only [Function.comp]; push_cast; omega
    rw [e]
    have e0 : i + ((0 : Nat) : Int) = i := by omega
    rw [e0]
    cases ns.any (· == i) <;> simp
theorem outs_rng (ns : List Int) (n : Nat) : outs ns 0 n = ((rng n).filter fun z => !ns.any (· == z)).map id := by
  rw [outs_filter, List.map_id]
  unfold rng
  congr 1
  apply List.map_congr_left
  intro j _
  omega
end Mine
namespace Mine
/-- all but the object at c stays -/
def Step (c : Addr) (h h' : Heap) : Prop := ∀ b o, b ≠ c → h.get? b = some o → h'.get? b = some o
theorem step_of {c : Addr} {h h1 h2 : Heap} (e : Ext h h1) (s : Heap.SameBut c h1 h2) : Step c h h2 := fun b o hb q => s.extBut b o hb (e b o q)
abbrev zOf (l : List Nat) : List Int := l.map fun n : Nat => (n : Int)
/-- c lies in the law's frame: from lo - 6 to lo -/
abbrev NIn (lo : Nat) (c : Nat) : Prop := lo - 6 ≤ c ∧ c ≤ lo
/-- a list, not of the law's frame, below hi -/
structure LB (lo hi : Nat) (h : Heap) (a : Addr) (vs : List Value) : Prop where
  lst : LST h a vs
  lo : ∀ c, NIn lo c → a ≠ c
  hi : @LT.lt Nat _ a hi
theorem LB.step {lo hi : Nat} {h h' : Heap} {a c : Addr} {vs : List Value} (x : LB lo hi h a vs) (s : Step c h h') (hc : NIn lo c ∨ @LE.le Nat _ hi c) : LB lo hi h' a vs := by
  refine ⟨?_, x.lo, x.hi⟩
  obtain ⟨n, e⟩ := x.lst
  refine ⟨n, s a _ (fun q => ?_) e⟩
  have h2 := x.hi
  rcases hc with hc | hc
  · exact x.lo c hc q
  · rw [q] at h2
    exact Nat.lt_irrefl _ (Nat.lt_of_lt_of_le h2 hc)
def refs (n : Nat) (f : Nat → Addr) : List Value := (List.range n).map fun i => Value.ref (f i)
theorem refs_get {n : Nat} {f : Nat → Addr} {i : Nat} (hi : i < n) : (refs n f)[i]? = some (.ref (f i)) := by simp [refs, hi]
structure Dat (lo hi : Nat) (h : Heap) (sz : Nat) (gA aA g0 g1 x0 x1 : Addr) (W0 W1 : Nat → Addr) (G0 G1 : Nat → List Nat) (X Y : Nat → Nat) : Prop where
  lt : @LT.lt Nat _ lo hi
  ga : LB lo hi h gA [.ref g0, .ref g1]
  g0 : LB lo hi h g0 (refs sz W0)
  g1 : LB lo hi h g1 (refs sz W1)
  w0 : ∀ p, p < sz → ∃ vs, LB lo hi h (W0 p) vs ∧ IntsAre vs (zOf (G0 p))
  w1 : ∀ p, p < sz → ∃ vs, LB lo hi h (W1 p) vs ∧ IntsAre vs (zOf (G1 p))
  aa : LB lo hi h aA [.ref x0, .ref x1]
  x0 : ∃ vs, LB lo hi h x0 vs ∧ IntsAre vs (zOf ((List.range sz).map X))
  x1 : ∃ vs, LB lo hi h x1 vs ∧ IntsAre vs (zOf ((List.range sz).map Y))
theorem Dat.step {lo hi : Nat} {h h' : Heap} {c : Addr} {sz : Nat} {gA aA g0 g1 x0 x1 : Addr} {W0 W1 : Nat → Addr} {G0 G1 : Nat → List Nat} {X Y : Nat → Nat}
    (x : Dat lo hi h sz gA aA g0 g1 x0 x1 W0 W1 G0 G1 X Y) (s : Step c h h') (hc : NIn lo c ∨ @LE.le Nat _ hi c) : Dat lo hi h' sz gA aA g0 g1 x0 x1 W0 W1 G0 G1 X Y :=
  ⟨x.lt, x.ga.step s hc, x.g0.step s hc, x.g1.step s hc, fun p hp => let ⟨vs, a, b⟩ := x.w0 p hp; ⟨vs, a.step s hc, b⟩, fun p hp => let ⟨vs, a, b⟩ := x.w1 p hp; ⟨vs, a.step s hc, b⟩, x.aa.step s hc, let ⟨vs, a, b⟩ := x.x0; ⟨vs, a.step s hc, b⟩, let ⟨vs, a, b⟩ := x.x1; ⟨vs, a.step s hc, b⟩⟩
theorem Dat.ext {lo hi : Nat} {h h' : Heap} {sz : Nat} {gA aA g0 g1 x0 x1 : Addr} {W0 W1 : Nat → Addr} {G0 G1 : Nat → List Nat} {X Y : Nat → Nat}
    (x : Dat lo hi h sz gA aA g0 g1 x0 x1 W0 W1 G0 G1 X Y) (s : Ext h h') : Dat lo hi h' sz gA aA g0 g1 x0 x1 W0 W1 G0 G1 X Y := x.step (c := lo) (fun b o _ e => s b o e) (.inl ⟨Nat.sub_le _ _, Nat.le_refl _⟩)

def rowX (X Y : Nat → Nat) (i k : Nat) : List Nat := (List.range k).map fun j => X i ^^^ Y j
def rowL (X Y : Nat → Nat) (i k : Nat) : List Bool := (List.range k).map fun j => decide (X i ^^^ Y j = 0)
structure Rows (hi : Nat) (h : Heap) (sz : Nat) (wA lA : Addr) (R : Nat → Addr) (X Y : Nat → Nat) (a bw bl : Nat) : Prop where
  w : LST h wA (refs (a + 1) fun i => R (2 * i))
  l : LST h lA (refs (a + 1) fun i => R (2 * i + 1))
  rw : ∀ i, i ≤ a → ∃ vs, LST h (R (2 * i)) vs ∧ IntsAre vs (zOf (rowX X Y i (if i < a then sz else bw)))
  rl : ∀ i, i ≤ a → LST h (R (2 * i + 1)) ((rowL X Y i (if i < a then sz else bl)).map Value.bool)
  up : ∀ i j, i < j → j ≤ 2 * a + 1 → NLt (R i) (R j)
  b1 : NLe hi wA
  b2 : NLt wA lA
  b3 : NLt lA (R 0)
section
variable {hi : Nat} {h h' : Heap} {sz : Nat} {wA lA : Addr} {R : Nat → Addr} {X Y : Nat → Nat} {a bw bl : Nat}
theorem Rows.above (x : Rows hi h sz wA lA R X Y a bw bl) : ∀ i, i ≤ 2 * a + 1 → NLt lA (R i) := fun i hi' => by
  cases Nat.eq_zero_or_pos i with
  | inl e => rw [e]; exact x.b3
  | inr e => exact Nat.lt_trans x.b3 (x.up 0 i e hi')
theorem LST.stepN {h h' : Heap} {a c : Addr} {vs : List Value} (x : LST h a vs) (s : Step c h h') (hc : a ≠ c) : LST h' a vs := let ⟨n, e⟩ := x; ⟨n, s a _ hc e⟩
/-- a step below hi, or of no row -/
theorem Rows.step {c : Addr} (x : Rows hi h sz wA lA R X Y a bw bl) (s : Step c h h') (hc : NLt c hi) : Rows hi h' sz wA lA R X Y a bw bl := by
  have h1 := x.b1
  have h2 := x.b2
  refine ⟨x.w.stepN s (Nat.ne_of_gt (by dsimp only [NLt, NLe] at *; omega)), x.l.stepN s (Nat.ne_of_gt (by dsimp only [NLt, NLe] at *; omega)), fun i hi' => ?_, fun i hi' => ?_, x.up, x.b1, x.b2, x.b3⟩
  · obtain ⟨vs, p, q⟩ := x.rw i hi'
    have := x.above (2 * i) (by omega)
    exact ⟨vs, p.stepN s (Nat.ne_of_gt (by dsimp only [NLt, NLe] at *; omega)), q⟩
  · have := x.above (2 * i + 1) (by omega)
    exact (x.rl i hi').stepN s (Nat.ne_of_gt (by dsimp only [NLt, NLe] at *; omega))
theorem Rows.ext (x : Rows hi h sz wA lA R X Y a bw bl) (s : Ext h h') : Rows hi h' sz wA lA R X Y a bw bl :=
  ⟨x.w.ext s, x.l.ext s, fun i hi' => let ⟨vs, p, q⟩ := x.rw i hi'; ⟨vs, p.ext s, q⟩, fun i hi' => (x.rl i hi').ext s, x.up, x.b1, x.b2, x.b3⟩
theorem Rows.ne (x : Rows hi h sz wA lA R X Y a bw bl) {i j : Nat} (hij : i ≠ j) (h1 : i ≤ 2 * a + 1) (h2 : j ≤ 2 * a + 1) : R i ≠ R j := by
  rcases Nat.lt_or_gt_of_ne hij with q | q
  · exact Nat.ne_of_lt (x.up i j q h2)
  · exact Nat.ne_of_gt (x.up j i q h1)
theorem rowX_succ (i k : Nat) : zOf (rowX X Y i (k + 1)) = zOf (rowX X Y i k) ++ [((X i ^^^ Y k : Nat) : Int)] := by simp [rowX, List.range_succ]
theorem rowL_succ (i k : Nat) : (rowL X Y i (k + 1)).map Value.bool = (rowL X Y i k).map Value.bool ++ [Value.bool (decide (X i ^^^ Y k = 0))] := by simp [rowL, List.range_succ]
theorem Rows.putW {vs : List Value} {t : Tok} (x : Rows hi h sz wA lA R X Y a bw bl) (s : Step (R (2 * a)) h h') (hv : IntsAre vs (zOf (rowX X Y a bw))) (hl : LST h' (R (2 * a)) (vs ++ [.int ((X a ^^^ Y bw : Nat) : Int) t])) : Rows hi h' sz wA lA R X Y a (bw + 1) bl := by
  have h0 := x.above (2 * a) (by omega)
  have h1 := x.b2
  refine ⟨x.w.stepN s (Nat.ne_of_lt (by dsimp only [NLt, NLe] at *; omega)), x.l.stepN s (Nat.ne_of_lt h0), fun i hi' => ?_, fun i hi' => ?_, x.up, x.b1, x.b2, x.b3⟩
  · by_cases e : i < a
    · obtain ⟨us, p, q⟩ := x.rw i hi'
      rw [if_pos e] at q ⊢
      exact ⟨us, p.stepN s (x.ne (by omega) (by omega) (by omega)), q⟩
    · have : i = a := by omega
      subst this
      rw [if_neg e, rowX_succ]
      exact ⟨_, hl, hv.append (.cons _ t .nil)⟩
  · exact (x.rl i hi').stepN s (x.ne (by omega) (by omega) (by omega))
theorem Rows.putL (x : Rows hi h sz wA lA R X Y a bw bl) (s : Step (R (2 * a + 1)) h h') (hl : LST h' (R (2 * a + 1)) ((rowL X Y a bl).map Value.bool ++ [.bool (decide (X a ^^^ Y bl = 0))])) : Rows hi h' sz wA lA R X Y a bw (bl + 1) := by
  have h0 := x.above (2 * a + 1) (by omega)
  have h1 := x.b2
  refine ⟨x.w.stepN s (Nat.ne_of_lt (by dsimp only [NLt, NLe] at *; omega)), x.l.stepN s (Nat.ne_of_lt h0), fun i hi' => ?_, fun i hi' => ?_, x.up, x.b1, x.b2, x.b3⟩
  · obtain ⟨us, p, q⟩ := x.rw i hi'
    exact ⟨us, p.stepN s (x.ne (by omega) (by omega) (by omega)), q⟩
  · by_cases e : i < a
    · have := x.rl i hi'
      rw [if_pos e] at this ⊢
      exact this.stepN s (x.ne (by omega) (by omega) (by omega))
    · have : i = a := by omega
      subst this
      rw [if_neg e, rowL_succ]
      exact hl
end
section
variable {h₀ h h' : Heap} {L : Nat} {m cm : Str → Option Value}
/-- the law's frame: its locals, its cells -/
structure LS (h₀ : Heap) (L : Nat) (h : Heap) (m cm : Str → Option Value) : Prop where
  fr : Fr h₀ L h m
  cl : Cl L (cellsL L) h cm
theorem LS.ext (x : LS h₀ L h m cm) (e : Ext h h') : LS h₀ L h' m cm := ⟨x.fr.keeps e, x.cl.keeps e⟩
theorem LS.step {c : Addr} (x : LS h₀ L h m cm) (s : Step c h h') (hc : NLt (L + 6) c) : LS h₀ L h' m cm := by
  have hL : L ≠ c := Nat.ne_of_lt (by dsimp only [NLt] at *; omega)
  refine ⟨⟨x.fr.ns.at' fun o e => s L o hL e, fun b o e => s b o (Nat.ne_of_lt ?_) (x.fr.keep b o e), x.fr.above⟩, ⟨fun n q e => ?_, x.cl.apart, x.cl.above⟩⟩
  · have h1 := Nat.lt_of_lt_of_le (Heap.lt_size e) x.fr.above
    dsimp only [NLt] at *; omega
  · obtain ⟨o, ho, hd⟩ := x.cl.cell n q e
    have := (cells_le L _ (mem_of_lookup e)).2
    exact ⟨o, s q o (Nat.ne_of_lt (by dsimp only [NLt, NLe] at *; omega)) ho, hd⟩
/-- a local name is stored (behind quiet work) -/
theorem LS.loc {x : Str} {v : Value} (z : LS h₀ L h m cm) (s : Step L h h') (hn : h'.Ns L (fun y => if y = x then some v else m y)) : LS h₀ L h' (fun y => if y = x then some v else m y) cm := by
  refine ⟨⟨hn, fun b o e => s b o (Nat.ne_of_lt (Nat.lt_of_lt_of_le (Heap.lt_size e) z.fr.above)) (z.fr.keep b o e), z.fr.above⟩, ⟨fun n q e => ?_, z.cl.apart, z.cl.above⟩⟩
  obtain ⟨o, ho, hd⟩ := z.cl.cell n q e
  have := (cells_le L _ (mem_of_lookup e)).1
  exact ⟨o, s q o (Nat.ne_of_gt this) ho, hd⟩
theorem LS.cel {x : Str} {v : Value} {c : Addr} (z : LS h₀ L h m cm) (s : Step c h h') (hc : (cellsL L).lookup x = some c) (hn : h'.IsCell c (some v)) : LS h₀ L h' m (fun y => if y = x then some v else cm y) := by
  have hlt := (cells_le L _ (mem_of_lookup hc)).1
  refine ⟨⟨z.fr.ns.at' fun o e => s L o (Nat.ne_of_lt hlt) e, fun b o e => s b o (Nat.ne_of_lt (Nat.lt_trans (Nat.lt_of_lt_of_le (Heap.lt_size e) z.fr.above) hlt)) (z.fr.keep b o e), z.fr.above⟩, ⟨fun n q e => ?_, z.cl.apart, z.cl.above⟩⟩
  by_cases hq : n = x
  · subst hq
    rw [hc] at e; cases e
    rw [if_pos rfl]; exact hn
  · rw [if_neg hq]
    obtain ⟨o, ho, hd⟩ := z.cl.cell n q e
    exact ⟨o, s q o (fun w => hq (name_of_addr z.cl.apart (mem_of_lookup e) (w ▸ mem_of_lookup hc))) ho, hd⟩
end
end Mine
namespace Mine
theorem ints_mem : ∀ {vs : List Value} {ns : List Int}, IntsAre vs ns → ∀ v ∈ vs, ∃ k t, v = .int k t ∧ k ∈ ns
  | _, _, .nil, _, h => nomatch h
  | _, _, .cons n t r, v, h => by
    rcases List.mem_cons.mp h with rfl | h
    · exact ⟨n, t, rfl, .head _⟩
    · obtain ⟨k, u, e, hk⟩ := ints_mem r v h
      exact ⟨k, u, e, .tail _ hk⟩
theorem ints_get : ∀ {vs : List Value} {ns : List Int}, IntsAre vs ns → ∀ (i : Nat) (k : Int), ns[i]? = some k → ∃ t, vs[i]? = some (.int k t)
  | _, _, .nil, _, _, h => by simp at h
  | _, _, .cons n t r, 0, k, h => by simp at h; subst h; exact ⟨t, by simp⟩
  | _, _, .cons n t r, i + 1, k, h => by
    obtain ⟨u, e⟩ := ints_get r i k (by simpa using h)
    exact ⟨u, by simpa using e⟩
theorem pairI {f : Nat → Int} : ∀ {rs : List Nat} {vs ys : List Value}, IntsAre vs (zOf rs) → Paired (fun v y => ∀ (r : Nat) t, v = .int r t → ∃ t', y = .int (f r) t') vs ys → IntsAre ys (rs.map f)
  | [], _, _, .nil, .nil => .nil
  | r :: rs, _, _, .cons _ t a, .cons h b => by
    obtain ⟨t', e⟩ := h r t rfl
    subst e
    exact .cons (f r) t' (pairI a b)
theorem pairB {f : Nat → Bool} : ∀ {rs : List Nat} {vs ys : List Value}, IntsAre vs (zOf rs) → Paired (fun v y => ∀ (r : Nat) t, v = .int r t → y = .bool (f r)) vs ys → ys = (rs.map f).map Value.bool
  | [], _, _, .nil, .nil => rfl
  | r :: rs, _, _, .cons _ t a, .cons h b => by
    have e := h r t rfl
    subst e
    rw [pairB a b]; rfl
section
variable {prog : Program} {w : World} {A : Around} {env : Env} {h : Heap}
theorem ev_lcI {elt iter : Expr} {x : Str} {px pos : Pos} {scope : Scope} {cl : List (Str × Addr)} {vs : List Value} {l : Addr} {rs : List Nat} (f : Nat → Int)
    (hclos : closureFor scope env = pure cl) (hl : LST h l vs) (hv : IntsAre vs (zOf rs)) (hsz : rs.length ≤ 1000) (hi : Ev prog w A env iter h (IsR l))
    (he : ∀ C (r : Nat) t H m, Ext h H → r ∈ rs → H.Ns C m → m x = some (.int r t) → Ev prog w A (compEnvC scope cl C env) elt H (IsI (f r)))
    (hh : A.handled = none) (hcell : ∀ y ∈ scope.names, y.2 ≠ .cell) (hkind : scope.kind = .function)
    (hnames : ∀ y ∈ scope.names, y.2 = .local → scope.names.lookup y.1 = some .local) (hx : scope.names.lookup x = some .local) (hs : ∀ x, foldedSetIterable iter env x = pure x) :
    Ev prog w A env (.ListComp elt [⟨.Name x px, iter, [], 0⟩] scope pos) h (NewI h (rs.map f)) :=
  (ev_lc (vs := vs) (fun v y => ∀ (r : Nat) t, v = .int r t → ∃ t', y = .int (f r) t') hh hclos hcell hkind hnames hx (hi.mono fun y h' k e => ⟨l, e, hl.ext k⟩) (by have := hv.length; rw [List.length_map] at this; omega) (fun C v H m k hm hn hx' => by
    obtain ⟨z, t, rfl, hz⟩ := ints_mem hv v hm
    obtain ⟨r, hr, rfl⟩ := List.mem_map.mp hz
    exact (he C r t H m k hr hn hx').mono fun y _ _ hy r' t' e => by
      injection e with e1 e2
      have : r = r' := Int.ofNat.inj e1
      subst this; exact hy) hs).mono fun y h' k hy => by
        obtain ⟨D, ys, e, hD, hl', hp⟩ := hy
        exact ⟨D, ys, e, hD, hl', pairI hv hp⟩
theorem ev_lcB {elt iter : Expr} {x : Str} {px pos : Pos} {scope : Scope} {cl : List (Str × Addr)} {vs : List Value} {l : Addr} {rs : List Nat} (f : Nat → Bool)
    (hclos : closureFor scope env = pure cl) (hl : LST h l vs) (hv : IntsAre vs (zOf rs)) (hsz : rs.length ≤ 1000) (hi : Ev prog w A env iter h (IsR l))
    (he : ∀ C (r : Nat) t H m, Ext h H → r ∈ rs → H.Ns C m → m x = some (.int r t) → Ev prog w A (compEnvC scope cl C env) elt H (IsB (f r)))
    (hh : A.handled = none) (hcell : ∀ y ∈ scope.names, y.2 ≠ .cell) (hkind : scope.kind = .function)
    (hnames : ∀ y ∈ scope.names, y.2 = .local → scope.names.lookup y.1 = some .local) (hx : scope.names.lookup x = some .local) (hs : ∀ x, foldedSetIterable iter env x = pure x) :
    Ev prog w A env (.ListComp elt [⟨.Name x px, iter, [], 0⟩] scope pos) h (NewB h (rs.map f)) :=
  (ev_lc (vs := vs) (fun v y => ∀ (r : Nat) t, v = .int r t → y = .bool (f r)) hh hclos hcell hkind hnames hx (hi.mono fun y h' k e => ⟨l, e, hl.ext k⟩) (by have := hv.length; rw [List.length_map] at this; omega) (fun C v H m k hm hn hx' => by
    obtain ⟨z, t, rfl, hz⟩ := ints_mem hv v hm
    obtain ⟨r, hr, rfl⟩ := List.mem_map.mp hz
    exact (he C r t H m k hr hn hx').mono fun y _ _ hy r' t' e => by
      injection e with e1 e2
      have : r = r' := Int.ofNat.inj e1
      subst this; exact hy) hs).mono fun y h' k hy => by
        obtain ⟨D, ys, e, hD, hl', hp⟩ := hy
        have := pairB hv hp
        subst this
        exact ⟨D, e, hD, hl'⟩
theorem newI_has {ns : List Int} {e : Expr} {H : Heap} (x : Ev prog w A env e h (NewI H ns)) : Ev prog w A env e h (HasI ns) := x.mono fun _ _ _ ⟨D, vs, a, _, b, c⟩ => ⟨D, vs, a, b, c⟩
theorem newB_has {ns : List Bool} {e : Expr} {H : Heap} (x : Ev prog w A env e h (NewB H ns)) : Ev prog w A env e h (HasB ns) := x.mono fun _ _ _ ⟨D, a, _, b⟩ => ⟨D, a, b⟩
end

section
variable {w : World} {h₀ : Heap} {L : Nat} {fa : Addr} {cd : Value} {m cm : Str → Option Value} {lo hi : Nat} {sz : Nat} {gA aA g0 g1 x0 x1 wA lA : Addr} {W0 W1 : Nat → Addr} {G0 G1 : Nat → List Nat} {X Y : Nat → Nat} {R : Nat → Addr} {a b bw bl : Nat} {s : Shared}
abbrev NoE : Value → Shared → Prop := fun _ _ => False
abbrev cTold (L : Nat) : Addr := L + 1 + 1 + 1 + 1 + 1 + 1
theorem LS.cellv {h : Heap} {x : Str} {c : Addr} {v : Value} (z : LS h₀ L h m cm) (hc : (cellsL L).lookup x = some c) (hv : cm x = some v) : h.IsCell c (some v) := hv ▸ z.cl.cell x c hc
theorem st_told {ta tb : Tok} (z : LS h₀ L s.heap m cm) (d : Dat lo hi s.heap sz gA aA g0 g1 x0 x1 W0 W1 G0 G1 X Y) (rr : Rows hi s.heap sz wA lA R X Y a b b)
    (hg : m (Str.ofString "games") = some (.ref gA)) (hw : cm (Str.ofString "worths") = some (.ref wA)) (ha : cm (Str.ofString "a") = some (.int a ta)) (hb : cm (Str.ofString "b") = some (.int b tb))
    (asz : a < sz) (bsz : b < sz) (hsz : sz ≤ 6) (gl0 : ∀ a, a < sz → ∀ r ∈ G0 a, r < a) (gl1 : ∀ a, a < sz → ∀ r ∈ G1 a, r < a) (len0 : (G0 a).length ≤ 6) (len1 : (G1 b).length ≤ 6) {Q : Flow → Shared → Prop}
    (hQ : ∀ D vs h' h2 tk, Ext s.heap h' → s.heap.get? D = none → LST h' D vs → IntsAre vs (toldOf X Y G0 G1 a b) → h2.IsCell (cTold L) (some (.ref D)) → Heap.SameBut (cTold L) h' h2 → Q .next { s with heap := h2, toks := tk }) :
    wpAny (model PR w) (AL L fa cd) (exec (stAt bB 0) (envL L fa cd)) Q NoE s := by
  have hL := z.fr.ns
  obtain ⟨vs0, l0, i0⟩ := d.w0 a asz
  obtain ⟨vs1, l1, i1⟩ := d.w1 b bsz
  have evG : ∀ {pos}, Ev PR w (AL L fa cd) (envL L fa cd) (.Name (Str.ofString "games") pos) s.heap (IsR gA) := ev_loc hL hg rfl rfl (by decide)
  have evA : ∀ {pos}, Ev PR w (AL L fa cd) (envL L fa cd) (.Name (Str.ofString "a") pos) s.heap (IsI a) := (ev_cell (z.cellv (x := Str.ofString "a") rfl ha) rfl rfl rfl (by decide)).mono fun y _ _ e => ⟨_, e⟩
  have evB : ∀ {pos}, Ev PR w (AL L fa cd) (envL L fa cd) (.Name (Str.ofString "b") pos) s.heap (IsI b) := (ev_cell (z.cellv (x := Str.ofString "b") rfl hb) rfl rfl rfl (by decide)).mono fun y _ _ e => ⟨_, e⟩
  refine ex_asgC (x := Str.ofString "told") (P := NewI s.heap (toldOf X Y G0 G1 a b)) (c := cTold L) (ev_addI (newI_has (H := s.heap) (ev_lcI (l := W0 a) (vs := vs0) (rs := G0 a) (fun r => ((X r ^^^ Y b : Nat) : Int)) rfl l0.lst i0 (by omega) ?it0 ?el0 rfl (by decide) rfl (by decide) rfl (fun _ => rfl))) (newI_has (H := s.heap) (ev_lcI (l := W1 b) (vs := vs1) (rs := G1 b) (fun r => ((X a ^^^ Y r : Nat) : Int)) rfl l1.lst i1 (by omega) ?it1 ?el1 rfl (by decide) rfl (by decide) rfl (fun _ => rfl))) ?len) (z.cl.cell (Str.ofString "told") (cTold L) rfl) ?fin rfl rfl rfl rfl
  case it0 => exact ev_sub (l := g0) (vs := refs sz W0) (ev_sub (l := gA) (k := 0) evG ev_int d.ga.lst (by decide) (by decide) rfl) evA d.g0.lst (by omega) (by omega) (refs_get asz)
  case it1 => exact ev_sub (l := g1) (vs := refs sz W1) (ev_sub (l := gA) (k := 1) evG ev_int d.ga.lst (by decide) (by decide) rfl) evB d.g1.lst (by omega) (by omega) (refs_get bsz)
  case el0 =>
    intro C r t H m' k hr hn hx
    have hra := gl0 a asz r hr
    obtain ⟨vr, lr, ir⟩ := rr.rw r (by omega)
    rw [if_pos hra] at ir
    obtain ⟨u, hu⟩ := ints_get ir b ((X r ^^^ Y b : Nat) : Int) (by simp [rowX, bsz])
    refine (ev_sub (l := R (2 * r)) (k := b) (vs := vr) (ev_sub (l := wA) (k := r) (vs := refs (a + 1) fun i => R (2 * i)) ?e1 ?e2 (rr.w.ext k) (by omega) (by omega) (refs_get (by omega))) ?e3 (lr.ext k) (by omega) (by omega) hu).mono fun y _ _ e => ⟨_, e⟩
    case e1 => exact ev_cell ((z.cellv (x := Str.ofString "worths") rfl hw).keeps k) rfl rfl rfl (by decide)
    case e2 => exact (ev_loc hn hx rfl rfl (by decide)).mono fun y _ _ e => ⟨_, e⟩
    case e3 => exact (ev_cell ((z.cellv (x := Str.ofString "b") rfl hb).keeps k) rfl rfl rfl (by decide)).mono fun y _ _ e => ⟨_, e⟩
  case el1 =>
    intro C r t H m' k hr hn hx
    have hrb := gl1 b bsz r hr
    obtain ⟨vr, lr, ir⟩ := rr.rw a (Nat.le_refl _)
    rw [if_neg (Nat.lt_irrefl _)] at ir
    obtain ⟨u, hu⟩ := ints_get ir r ((X a ^^^ Y r : Nat) : Int) (by simp [rowX, hrb])
    refine (ev_sub (l := R (2 * a)) (k := r) (vs := vr) (ev_sub (l := wA) (k := a) (vs := refs (a + 1) fun i => R (2 * i)) ?e1 ?e2 (rr.w.ext k) (by omega) (by omega) (refs_get (by omega))) ?e3 (lr.ext k) (by omega) (by omega) hu).mono fun y _ _ e => ⟨_, e⟩
    case e1 => exact ev_cell ((z.cellv (x := Str.ofString "worths") rfl hw).keeps k) rfl rfl rfl (by decide)
    case e2 => exact (ev_cell ((z.cellv (x := Str.ofString "a") rfl ha).keeps k) rfl rfl rfl (by decide)).mono fun y _ _ e => ⟨_, e⟩
    case e3 => exact (ev_loc hn hx rfl rfl (by decide)).mono fun y _ _ e => ⟨_, e⟩
  case len => rw [List.length_map, List.length_map]; omega
  case fin =>
    intro y h' h2 tk hy k hc hs
    obtain ⟨D, vs, rfl, hD, hl, hi⟩ := hy
    exact hQ D vs h' h2 tk k hD hl hi hc hs
end
end Mine
namespace Mine
theorem k_filter (w : World) : keepIn (hd.heap_39 w.params) (.ref 58) = true := by kernel_rfl
section
variable {w : World} {h₀ : Heap} {L : Nat} {fa : Addr} {cd : Value} {m cm : Str → Option Value} {lo hi : Nat} {sz : Nat} {gA aA g0 g1 x0 x1 wA lA : Addr} {W0 W1 : Nat → Addr} {G0 G1 : Nat → List Nat} {X Y : Nat → Nat} {R : Nat → Addr} {a b bw bl : Nat} {s : Shared}
  {mg mb : Str → Option Value} {mean : ExcName → Option Value}
theorem evSize2 {h : Heap} {ts : Tok} (z : LS h₀ L h m cm) (hs : m (Str.ofString "size") = some (.int sz ts)) (h1 : 1 ≤ sz) (h2 : sz ≤ 6) {k1 k2 : Nat} {p1 p2 p3 p4 p5 : Pos} :
    Ev PR w (AL L fa cd) (envL L fa cd) (.BinOp (.BinOp (.Constant (.int 2) k1 p1) .Mult (.Name (Str.ofString "size") p2) p3) .Sub (.Constant (.int 1) k2 p4) p5) h (IsI ((2 * sz - 1 : Nat) : Int)) := by
  have e : ((2 * sz - 1 : Nat) : Int) = (2 : Int) * (sz : Int) - 1 := by omega
  rw [e]
  exact ev_sub_int (ev_mul ev_int ((ev_loc z.fr.ns hs rfl rfl (by decide)).mono fun y _ _ e => ⟨_, e⟩) (by mul_fits)) ev_int
theorem st_free {ts : Tok} {D : Addr} {vs : List Value} {ns : List Int} (T : Top hd.view_39 (looseW hd.view_39 lookL) mean mg mb h₀) (K0 : Below callerA h₀ [] h₀) (KX : (hd.heap_39 w.params).In h₀)
    (z : LS h₀ L s.heap m cm) (hs : m (Str.ofString "size") = some (.int sz ts)) (h1 : 1 ≤ sz) (h2 : sz ≤ 6) (ht : cm (Str.ofString "told") = some (.ref D)) (hD : LST s.heap D vs) (hi : IntsAre vs ns) {Q : Flow → Shared → Prop}
    (hQ : ∀ D2 acc h2 tk, Step L s.heap h2 → s.heap.get? D2 = none → LST h2 D2 acc → IntsAre acc (outs ns 0 (2 * sz - 1)) → h2.Ns L (fun y => if y = Str.ofString "free" then some (.ref D2) else m y) → Q .next { s with heap := h2, toks := tk }) :
    wpAny (model PR w) (AL L fa cd) (exec (stAt bB 1) (envL L fa cd)) Q NoE s := by
  refine wpAny_Assign_Name (x := Str.ofString "free") (wpAny_Call_ofName (evFilter T KX z.fr s _ _ (Ext.refl _) fun f s1 hf k1 => ?_)) rfl
  subst hf
  refine callWith_K KX (k_filter w) ?_ rfl rfl
  show wpAny _ _ (spliced [(false, eval _ _), (false, eval _ _)]) _ _ _
  have z1 := z.ext (kext k1)
  refine Calls.spliced_cons (ev_range1 (evRange T KX z1.fr) (evSize2 z1 hs h1 h2) rfl s1 _ _ (Ext.refl _) fun y s2 hy k2 => ?_)
  obtain ⟨r, t, u, v, rfl, _, hr⟩ := hy
  have z2 := z1.ext (kext k2)
  refine Calls.spliced_cons (ev_cell (z2.cellv (x := Str.ofString "told") rfl ht) rfl rfl rfl (by decide) s2 _ _ (Ext.refl _) fun y s3 hy k3 => Calls.spliced_nil ⟨KX.keeps ((z2.ext (kext k3)).fr.keep), ?_⟩)
  subst hy
  have z3 := z2.ext (kext k3)
  obtain ⟨c, gD⟩ := ((hD.ext (kext k1)).ext (kext k2)).ext (kext k3)
  have kk := kthen (kthen k1 k2) k3
  refine filt w h₀ s3 s3.heap s3.toks m mg mb mean (Str.ofString "law") lawNames lawMore L fa cd T K0 z3.fr D r c vs ns (2 * sz - 1) (by omega) t u v gD (kext k3 _ _ hr) hi _ _ ?_ KX
  intro D2 h' tk' acc c' ha ke hl hne hnone hns
  obtain ⟨h3, t3, rfl, e3⟩ := kk
  refine wpAny_storeName_local rfl hns (fun h4 hn4 hs4 => ?_) rfl
  refine hQ D2 acc h4 _ (fun b o hb e => hs4.extBut b o hb (ke b o hb (e3 b o e))) ?_ ⟨c', hs4.extBut D2 _ hne hl⟩ ha hn4
  cases q : s.heap.get? D2 with
  | none => rfl
  | some o => exact absurd (e3 _ _ q) (by rw [hnone]; exact fun w => nomatch w)
end
end Mine
namespace Mine
theorem units_AL (L fa : Addr) (cd : Value) : (AL L fa cd).units + 64 < cLine := by
  show callerA.units + 3 + 64 < cLine
  decide
section
variable {w : World} {h₀ : Heap} {L : Nat} {fa : Addr} {cd : Value} {m cm : Str → Option Value} {lo hi : Nat} {sz : Nat} {gA aA g0 g1 x0 x1 wA lA : Addr} {W0 W1 : Nat → Addr} {G0 G1 : Nat → List Nat} {X Y : Nat → Nat} {R : Nat → Addr} {a b bw bl : Nat} {s : Shared}
  {mg mb : Str → Option Value} {mean : ExcName → Option Value}
theorem st_if1 {ts : Tok} {D D2 : Addr} {vs acc : List Value} {ns : List Int} (T : Top hd.view_39 (looseW hd.view_39 lookL) mean mg mb h₀) (KX : (hd.heap_39 w.params).In h₀)
    (z : LS h₀ L s.heap m cm) (hs : m (Str.ofString "size") = some (.int sz ts)) (h1 : 1 ≤ sz) (h2 : sz ≤ 6) (ht : cm (Str.ofString "told") = some (.ref D)) (hD : LST s.heap D vs) (hi : IntsAre vs ns)
    (hf : m (Str.ofString "free") = some (.ref D2)) (hD2 : LST s.heap D2 acc) (ha : IntsAre acc (outs ns 0 (2 * sz - 1))) {Q : Flow → Shared → Prop}
    (hQ : ∀ h' tk, Ext s.heap h' → Q .next { s with heap := h', toks := tk }) :
    wpAny (model PR w) (AL L fa cd) (exec (stAt bB 2) (envL L fa cd)) Q NoE s := by
  have hb : (!decide (outs ns 0 (2 * sz - 1) = ((rng (2 * sz - 1)).filter fun z => !ns.any (· == z)).map id)) = false := by rw [outs_rng]; simp
  refine ex_if (c := !decide (outs ns 0 (2 * sz - 1) = ((rng (2 * sz - 1)).filter fun z => !ns.any (· == z)).map id)) ?_ fun h' tk e => by rw [hb]; exact wpAny_execs_nil (hQ h' tk e)
  refine evT_cmp (P1 := HasI (outs ns 0 (2 * sz - 1))) (P2 := HasI (((rng (2 * sz - 1)).filter fun z => !ns.any (· == z)).map id)) ((ev_loc z.fr.ns hf rfl rfl (by decide)).mono fun y h' k e => ⟨D2, acc, e, hD2.ext k, ha⟩)
    (newI_has (H := s.heap) (ev_lcR (n := 2 * sz - 1) (fun z => !ns.any (· == z)) id rfl rfl (by decide) rfl (by decide) rfl ((ev_range1 (evRange T KX z.fr) (evSize2 z hs h1 h2) rfl).mono fun y h' k ⟨r, t, u, v, e, _, g⟩ => ⟨r, t, u, v, e, g⟩) (by omega) ?tst ?elt (fun _ => rfl))) (mHI _) (cmp_neL (units_AL L fa cd)) rfl
  case tst =>
    intro C k t H m' kx hk hn hx
    exact evT_cmp (P1 := IsI k) (P2 := HasI ns) ((ev_loc hn hx rfl rfl (by decide)).mono fun y _ _ e => ⟨_, e⟩) ((ev_cell ((z.cellv (x := Str.ofString "told") rfl ht).keeps kx) rfl rfl rfl (by decide)).mono fun y h' k' e => ⟨D, vs, e, (hD.ext kx).ext k', hi⟩) (mI k) cmp_notin rfl
  case elt =>
    intro C k t H m' kx hk _ hn hx
    exact (ev_loc hn hx rfl rfl (by decide)).mono fun y _ _ e => ⟨_, e⟩
theorem st_app1 {ta tb : Tok} {D2 : Addr} {acc : List Value} {l : List Int}
    (z : LS h₀ L s.heap m cm) (rr : Rows hi s.heap sz wA lA R X Y a b b) (hw : cm (Str.ofString "worths") = some (.ref wA)) (ha : cm (Str.ofString "a") = some (.int a ta)) (asz : a < sz) (bsz : b < sz) (hsz : sz ≤ 6)
    (hf : m (Str.ofString "free") = some (.ref D2)) (hD2 : LST s.heap D2 acc) (hacc : IntsAre acc (((X a ^^^ Y b : Nat) : Int) :: l)) {Q : Flow → Shared → Prop}
    (hQ : ∀ h' h2 tk, Ext s.heap h' → Heap.SameBut (R (2 * a)) h' h2 → Rows hi h2 sz wA lA R X Y a (b + 1) b → Q .next { s with heap := h2, toks := tk }) :
    wpAny (model PR w) (AL L fa cd) (exec (stAt bB 3) (envL L fa cd)) Q NoE s := by
  obtain ⟨vr, lr, ir⟩ := rr.rw a (Nat.le_refl _)
  rw [if_neg (Nat.lt_irrefl _)] at ir
  have hlen : vr.length = b := by rw [ir.length]; simp [rowX]
  obtain ⟨u, hu⟩ := ints_get hacc 0 _ rfl
  refine ex_append (l := R (2 * a)) (vs := vr) (P := fun y _ => y = .int ((X a ^^^ Y b : Nat) : Int) u) (ev_sub (l := wA) (k := a) (vs := refs (a + 1) fun i => R (2 * i)) ?e1 ?e2 rr.w (by omega) (by omega) (refs_get (by omega)))
    (ev_sub (l := D2) (k := 0) (vs := acc) (ev_loc z.fr.ns hf rfl rfl (by decide)) ev_int hD2 (by decide) (by decide) hu) lr (by omega) ?fin rfl rfl rfl rfl
  case e1 => exact ev_cell (z.cellv (x := Str.ofString "worths") rfl hw) rfl rfl rfl (by decide)
  case e2 => exact (ev_cell (z.cellv (x := Str.ofString "a") rfl ha) rfl rfl rfl (by decide)).mono fun y _ _ e => ⟨_, e⟩
  case fin =>
    intro y h' h2 tk hy k hl hs
    subst hy
    exact hQ h' h2 tk k hs (rr.putW (step_of k hs) ir hl)
theorem st_ends {ta tb : Tok} (z : LS h₀ L s.heap m cm) (d : Dat lo hi s.heap sz gA aA g0 g1 x0 x1 W0 W1 G0 G1 X Y) (rr : Rows hi s.heap sz wA lA R X Y a bw b)
    (hg : m (Str.ofString "games") = some (.ref gA)) (hw : cm (Str.ofString "lost") = some (.ref lA)) (ha : cm (Str.ofString "a") = some (.int a ta)) (hb : cm (Str.ofString "b") = some (.int b tb))
    (asz : a < sz) (bsz : b < sz) (hsz : sz ≤ 6) (gl0 : ∀ a, a < sz → ∀ r ∈ G0 a, r < a) (gl1 : ∀ a, a < sz → ∀ r ∈ G1 a, r < a) (len0 : (G0 a).length ≤ 6) (len1 : (G1 b).length ≤ 6) {Q : Flow → Shared → Prop}
    (hQ : ∀ D h' h2 tk, Ext s.heap h' → s.heap.get? D = none → LST h' D ((endsOf X Y G0 G1 a b).map Value.bool) → h2.Ns L (fun y => if y = Str.ofString "ends" then some (.ref D) else m y) → Heap.SameBut L h' h2 → Q .next { s with heap := h2, toks := tk }) :
    wpAny (model PR w) (AL L fa cd) (exec (stAt bB 4) (envL L fa cd)) Q NoE s := by
  have hL := z.fr.ns
  obtain ⟨vs0, l0, i0⟩ := d.w0 a asz
  obtain ⟨vs1, l1, i1⟩ := d.w1 b bsz
  have evG : ∀ {pos}, Ev PR w (AL L fa cd) (envL L fa cd) (.Name (Str.ofString "games") pos) s.heap (IsR gA) := ev_loc hL hg rfl rfl (by decide)
  have evA : ∀ {pos}, Ev PR w (AL L fa cd) (envL L fa cd) (.Name (Str.ofString "a") pos) s.heap (IsI a) := (ev_cell (z.cellv (x := Str.ofString "a") rfl ha) rfl rfl rfl (by decide)).mono fun y _ _ e => ⟨_, e⟩
  have evB : ∀ {pos}, Ev PR w (AL L fa cd) (envL L fa cd) (.Name (Str.ofString "b") pos) s.heap (IsI b) := (ev_cell (z.cellv (x := Str.ofString "b") rfl hb) rfl rfl rfl (by decide)).mono fun y _ _ e => ⟨_, e⟩
  refine ex_asg (x := Str.ofString "ends") (P := NewB s.heap (endsOf X Y G0 G1 a b)) (m := m) (ev_addB (newB_has (H := s.heap) (ev_lcB (l := W0 a) (vs := vs0) (rs := G0 a) (fun r => decide (X r ^^^ Y b = 0)) rfl l0.lst i0 (by omega) ?it0 ?el0 rfl (by decide) rfl (by decide) rfl (fun _ => rfl))) (newB_has (H := s.heap) (ev_lcB (l := W1 b) (vs := vs1) (rs := G1 b) (fun r => decide (X a ^^^ Y r = 0)) rfl l1.lst i1 (by omega) ?it1 ?el1 rfl (by decide) rfl (by decide) rfl (fun _ => rfl))) ?len) hL ?fin rfl rfl rfl
  case it0 => exact ev_sub (l := g0) (vs := refs sz W0) (ev_sub (l := gA) (k := 0) evG ev_int d.ga.lst (by decide) (by decide) rfl) evA d.g0.lst (by omega) (by omega) (refs_get asz)
  case it1 => exact ev_sub (l := g1) (vs := refs sz W1) (ev_sub (l := gA) (k := 1) evG ev_int d.ga.lst (by decide) (by decide) rfl) evB d.g1.lst (by omega) (by omega) (refs_get bsz)
  case el0 =>
    intro C r t H m' k hr hn hx
    have hra := gl0 a asz r hr
    have lr := rr.rl r (by omega)
    rw [if_pos hra] at lr
    refine (ev_sub (l := R (2 * r + 1)) (k := b) (v := .bool (decide (X r ^^^ Y b = 0))) (ev_sub (l := lA) (k := r) (vs := refs (a + 1) fun i => R (2 * i + 1)) ?e1 ?e2 (rr.l.ext k) (by omega) (by omega) (refs_get (by omega))) ?e3 (lr.ext k) (by omega) (by omega) (by simp [rowL, bsz]))
    case e1 => exact ev_cell ((z.cellv (x := Str.ofString "lost") rfl hw).keeps k) rfl rfl rfl (by decide)
    case e2 => exact (ev_loc hn hx rfl rfl (by decide)).mono fun y _ _ e => ⟨_, e⟩
    case e3 => exact (ev_cell ((z.cellv (x := Str.ofString "b") rfl hb).keeps k) rfl rfl rfl (by decide)).mono fun y _ _ e => ⟨_, e⟩
  case el1 =>
    intro C r t H m' k hr hn hx
    have hrb := gl1 b bsz r hr
    have lr := rr.rl a (Nat.le_refl _)
    rw [if_neg (Nat.lt_irrefl _)] at lr
    refine (ev_sub (l := R (2 * a + 1)) (k := r) (v := .bool (decide (X a ^^^ Y r = 0))) (ev_sub (l := lA) (k := a) (vs := refs (a + 1) fun i => R (2 * i + 1)) ?e1 ?e2 (rr.l.ext k) (by omega) (by omega) (refs_get (by omega))) ?e3 (lr.ext k) (by omega) (by omega) (by simp [rowL, hrb]))
    case e1 => exact ev_cell ((z.cellv (x := Str.ofString "lost") rfl hw).keeps k) rfl rfl rfl (by decide)
    case e2 => exact (ev_cell ((z.cellv (x := Str.ofString "a") rfl ha).keeps k) rfl rfl rfl (by decide)).mono fun y _ _ e => ⟨_, e⟩
    case e3 => exact (ev_loc hn hx rfl rfl (by decide)).mono fun y _ _ e => ⟨_, e⟩
  case len => rw [List.length_map, List.length_map]; omega
  case fin =>
    intro y h' h2 tk hy k hc hs
    obtain ⟨D, rfl, hD, hl⟩ := hy
    exact hQ D h' h2 tk k hD hl hc hs
theorem st_app2 {ta : Tok} {D : Addr} {bs : List Bool}
    (z : LS h₀ L s.heap m cm) (rr : Rows hi s.heap sz wA lA R X Y a bw b) (hw : cm (Str.ofString "lost") = some (.ref lA)) (ha : cm (Str.ofString "a") = some (.int a ta)) (asz : a < sz) (bsz : b < sz) (hsz : sz ≤ 6)
    (hf : m (Str.ofString "ends") = some (.ref D)) (hD : LST s.heap D (bs.map Value.bool)) (hbs : (!bs.any (· == true)) = decide (X a ^^^ Y b = 0)) {Q : Flow → Shared → Prop}
    (hQ : ∀ h' h2 tk, Ext s.heap h' → Heap.SameBut (R (2 * a + 1)) h' h2 → Rows hi h2 sz wA lA R X Y a bw (b + 1) → Q .next { s with heap := h2, toks := tk }) :
    wpAny (model PR w) (AL L fa cd) (exec (stAt bB 5) (envL L fa cd)) Q NoE s := by
  have lr := rr.rl a (Nat.le_refl _)
  rw [if_neg (Nat.lt_irrefl _)] at lr
  refine ex_append (l := R (2 * a + 1)) (P := IsB (!bs.any (· == true))) (ev_sub (l := lA) (k := a) (vs := refs (a + 1) fun i => R (2 * i + 1)) ?e1 ?e2 rr.l (by omega) (by omega) (refs_get (by omega)))
    (ev_cmp (P1 := IsB true) (P2 := HasB bs) ev_bool ((ev_loc z.fr.ns hf rfl rfl (by decide)).mono fun y h' k e => ⟨D, e, hD.ext k⟩) (mB true) cmp_notinB rfl) lr (by simp [rowL]; omega) ?fin rfl rfl rfl rfl
  case e1 => exact ev_cell (z.cellv (x := Str.ofString "lost") rfl hw) rfl rfl rfl (by decide)
  case e2 => exact (ev_cell (z.cellv (x := Str.ofString "a") rfl ha) rfl rfl rfl (by decide)).mono fun y _ _ e => ⟨_, e⟩
  case fin =>
    intro y h' h2 tk hy k hl hs
    have hy' : y = .bool (decide (X a ^^^ Y b = 0)) := by rw [← hbs]; exact hy
    subst hy'
    exact hQ h' h2 tk k hs (rr.putL (step_of k hs) hl)
theorem st_if2 {ta tb : Tok} (z : LS h₀ L s.heap m cm) (d : Dat lo hi s.heap sz gA aA g0 g1 x0 x1 W0 W1 G0 G1 X Y) (rr : Rows hi s.heap sz wA lA R X Y a (b + 1) (b + 1))
    (hw : cm (Str.ofString "worths") = some (.ref wA)) (hl : cm (Str.ofString "lost") = some (.ref lA)) (hal : m (Str.ofString "alone") = some (.ref aA)) (ha : cm (Str.ofString "a") = some (.int a ta)) (hb : cm (Str.ofString "b") = some (.int b tb))
    (asz : a < sz) (bsz : b < sz) (hsz : sz ≤ 6) (hX : X a < 8) (hY : Y b < 8) {Q : Flow → Shared → Prop}
    (hQ : ∀ h' tk, Ext s.heap h' → Q .next { s with heap := h', toks := tk }) :
    wpAny (model PR w) (AL L fa cd) (exec (stAt bB 6) (envL L fa cd)) Q NoE s := by
  have hL := z.fr.ns
  obtain ⟨vx, lx, ix⟩ := d.x0
  obtain ⟨vy, ly, iy⟩ := d.x1
  obtain ⟨vr, lr, ir⟩ := rr.rw a (Nat.le_refl _)
  rw [if_neg (Nat.lt_irrefl _)] at ir
  have ll := rr.rl a (Nat.le_refl _)
  rw [if_neg (Nat.lt_irrefl _)] at ll
  obtain ⟨u, hu⟩ := ints_get ir b ((X a ^^^ Y b : Nat) : Int) (by simp [rowX])
  obtain ⟨ux, hux⟩ := ints_get ix a ((X a : Nat) : Int) (by simp [asz])
  obtain ⟨uy, huy⟩ := ints_get iy b ((Y b : Nat) : Int) (by simp [bsz])
  have evA : ∀ {pos}, Ev PR w (AL L fa cd) (envL L fa cd) (.Name (Str.ofString "a") pos) s.heap (IsI a) := (ev_cell (z.cellv (x := Str.ofString "a") rfl ha) rfl rfl rfl (by decide)).mono fun y _ _ e => ⟨_, e⟩
  have evB : ∀ {pos}, Ev PR w (AL L fa cd) (envL L fa cd) (.Name (Str.ofString "b") pos) s.heap (IsI b) := (ev_cell (z.cellv (x := Str.ofString "b") rfl hb) rfl rfl rfl (by decide)).mono fun y _ _ e => ⟨_, e⟩
  have evW : ∀ {p1 p2 p3 p4 p5}, Ev PR w (AL L fa cd) (envL L fa cd) (.Subscript (.Subscript (.Name (Str.ofString "worths") p1) (.Name (Str.ofString "a") p2) p3) (.Name (Str.ofString "b") p4) p5) s.heap (IsI ((X a ^^^ Y b : Nat) : Int)) := fun {p1 p2 p3 p4 p5} =>
    (ev_sub (l := R (2 * a)) (k := b) (vs := vr) (ev_sub (l := wA) (k := a) (vs := refs (a + 1) fun i => R (2 * i)) (ev_cell (z.cellv (x := Str.ofString "worths") rfl hw) rfl rfl rfl (by decide)) evA rr.w (by omega) (by omega) (refs_get (by omega))) evB lr (by omega) (by omega) hu).mono fun y _ _ e => ⟨_, e⟩
  have evL : ∀ {p1 p2 p3 p4 p5}, Ev PR w (AL L fa cd) (envL L fa cd) (.Subscript (.Subscript (.Name (Str.ofString "lost") p1) (.Name (Str.ofString "a") p2) p3) (.Name (Str.ofString "b") p4) p5) s.heap (IsB (decide (X a ^^^ Y b = 0))) := fun {p1 p2 p3 p4 p5} =>
    ev_sub (l := R (2 * a + 1)) (k := b) (ev_sub (l := lA) (k := a) (vs := refs (a + 1) fun i => R (2 * i + 1)) (ev_cell (z.cellv (x := Str.ofString "lost") rfl hl) rfl rfl rfl (by decide)) evA rr.l (by omega) (by omega) (refs_get (by omega))) evB ll (by omega) (by omega) (by simp [rowL])
  have evO : ∀ {pos}, Ev PR w (AL L fa cd) (envL L fa cd) (.Name (Str.ofString "alone") pos) s.heap (IsR aA) := ev_loc hL hal rfl rfl (by decide)
  have e1 : (((((X a ^^^ Y b : Nat) : Int) == 0)) != decide (X a ^^^ Y b = 0)) = false := by
    by_cases q : X a ^^^ Y b = 0
    · rw [decide_eq_true q, q]; rfl
    · rw [decide_eq_false q, beq_eq_false_iff_ne.mpr (by omega)]; rfl
  have e2 : (((X a ^^^ Y b : Nat) : Int) != Builtin.bitXor ((X a : Nat) : Int) ((Y b : Nat) : Int)) = false := by rw [bitXor_nat hX hY]; simp
  have e3 : ((((((X a ^^^ Y b : Nat) : Int) == 0)) != decide (X a ^^^ Y b = 0)) || (((X a ^^^ Y b : Nat) : Int) != Builtin.bitXor ((X a : Nat) : Int) ((Y b : Nat) : Int))) = false := by rw [e1, e2]; rfl
  refine ex_if (c := (((((X a ^^^ Y b : Nat) : Int) == 0)) != decide (X a ^^^ Y b = 0)) || (((X a ^^^ Y b : Nat) : Int) != Builtin.bitXor ((X a : Nat) : Int) ((Y b : Nat) : Int))) ?_ fun h' tk e => by rw [e3]; exact wpAny_execs_nil (hQ h' tk e)
  refine evT_or2 (evT_cmp (ev_cmp evW ev_int (mI _) cmp_eq rfl) evL (mB _) cmp_neB rfl) fun _ => evT_cmp evW (ev_xor ?f1 ?f2) (mI _) cmp_ne rfl
  case f1 => exact (ev_sub (l := x0) (k := a) (vs := vx) (ev_sub (l := aA) (k := 0) evO ev_int d.aa.lst (by decide) (by decide) rfl) evA lx.lst (by omega) (by omega) hux).mono fun y _ _ e => ⟨_, e⟩
  case f2 => exact (ev_sub (l := x1) (k := b) (vs := vy) (ev_sub (l := aA) (k := 1) evO ev_int d.aa.lst (by decide) (by decide) rfl) evB ly.lst (by omega) (by omega) huy).mono fun y _ _ e => ⟨_, e⟩
end
end Mine
namespace Mine
section
variable {w : World} {h₀ : Heap} {L : Nat} {fa : Addr} {cd : Value} {m cm : Str → Option Value} {lo hi : Nat} {sz : Nat} {gA aA g0 g1 x0 x1 wA lA : Addr} {W0 W1 : Nat → Addr} {G0 G1 : Nat → List Nat} {X Y : Nat → Nat} {R : Nat → Addr} {a b bw bl : Nat} {s : Shared} {h h' : Heap}
  {mg mb : Str → Option Value} {mean : ExcName → Option Value}
structure LocOK (m : Str → Option Value) (sz : Nat) (gA aA : Addr) : Prop where
  size : ∃ ts, m (Str.ofString "size") = some (.int sz ts)
  games : m (Str.ofString "games") = some (.ref gA)
  alone : m (Str.ofString "alone") = some (.ref aA)
theorem LocOK.set {x : Str} {v : Value} (o : LocOK m sz gA aA) (h1 : Str.ofString "size" ≠ x) (h2 : Str.ofString "games" ≠ x) (h3 : Str.ofString "alone" ≠ x) : LocOK (fun y => if y = x then some v else m y) sz gA aA :=
  ⟨let ⟨t, e⟩ := o.size; ⟨t, by rw [if_neg h1]; exact e⟩, by rw [if_neg h2]; exact o.games, by rw [if_neg h3]; exact o.alone⟩
structure CelOK (cm : Str → Option Value) (wA lA : Addr) (a : Nat) : Prop where
  w : cm (Str.ofString "worths") = some (.ref wA)
  l : cm (Str.ofString "lost") = some (.ref lA)
  a : ∃ t, cm (Str.ofString "a") = some (.int a t)
theorem CelOK.set {x : Str} {v : Value} (o : CelOK cm wA lA a) (h1 : Str.ofString "worths" ≠ x) (h2 : Str.ofString "lost" ≠ x) (h3 : Str.ofString "a" ≠ x) : CelOK (fun y => if y = x then some v else cm y) wA lA a :=
  ⟨by rw [if_neg h1]; exact o.w, by rw [if_neg h2]; exact o.l, let ⟨t, e⟩ := o.a; ⟨t, by rw [if_neg h3]; exact e⟩⟩
theorem ne_ns {D : Addr} {vs : List Value} (l : LST h D vs) (n : h.Ns L m) : D ≠ L := by
  rintro rfl
  obtain ⟨c, e⟩ := l
  obtain ⟨o, es, ep, ho, hd, _⟩ := n
  rw [e] at ho; cases ho; cases hd
theorem ne_cell {D : Addr} {vs : List Value} {c : Addr} {v : Option Value} (l : LST h D vs) (n : h.IsCell c v) : D ≠ c := by
  rintro rfl
  obtain ⟨c, e⟩ := l
  obtain ⟨o, ho, hd⟩ := n
  rw [e] at ho; cases ho; cases hd
/-- the plain data of the law: bounds and the mex facts -/
structure Law (sz : Nat) (G0 G1 : Nat → List Nat) (X Y : Nat → Nat) : Prop where
  s1 : 1 ≤ sz
  s6 : sz ≤ 6
  g0 : ∀ a, a < sz → ∀ r ∈ G0 a, r < a
  g1 : ∀ a, a < sz → ∀ r ∈ G1 a, r < a
  n0 : ∀ a, a < sz → (G0 a).length ≤ 6
  n1 : ∀ a, a < sz → (G1 a).length ≤ 6
  x : ∀ a, a < sz → Mex X G0 a
  y : ∀ a, a < sz → Mex Y G1 a
  xb : ∀ a b, a < sz → b < sz → X a ^^^ Y b < 2 * sz - 1
  x8 : ∀ a, a < sz → X a < 8
  y8 : ∀ a, a < sz → Y a < 8
structure Env0 (w : World) (h₀ : Heap) (mg mb : Str → Option Value) (mean : ExcName → Option Value) : Prop where
  T : Top hd.view_39 (looseW hd.view_39 lookL) mean mg mb h₀
  K0 : Below callerA h₀ [] h₀
  KX : (hd.heap_39 w.params).In h₀

theorem body_ab (V : Env0 w h₀ mg mb mean) (P : Law sz G0 G1 X Y) (hlo : lo = L + 6) {tb : Tok} (z : LS h₀ L s.heap m cm) (d : Dat lo hi s.heap sz gA aA g0 g1 x0 x1 W0 W1 G0 G1 X Y) (rr : Rows hi s.heap sz wA lA R X Y a b b)
    (lk : LocOK m sz gA aA) (ck : CelOK cm wA lA a) (hb : cm (Str.ofString "b") = some (.int b tb)) (asz : a < sz) (bsz : b < sz) {Q : Flow → Shared → Prop}
    (hQ : ∀ h' tk m' cm', LS h₀ L h' m' cm' → Dat lo hi h' sz gA aA g0 g1 x0 x1 W0 W1 G0 G1 X Y → Rows hi h' sz wA lA R X Y a (b + 1) (b + 1) → LocOK m' sz gA aA → CelOK cm' wA lA a →
      (∀ x o, x ≠ L → x ≠ cTold L → x ≠ R (2 * a) → x ≠ R (2 * a + 1) → s.heap.get? x = some o → h'.get? x = some o) → Q .next { s with heap := h', toks := tk }) :
    wpAny (model PR w) (AL L fa cd) (execs bB (envL L fa cd)) Q NoE s := by
  have hlh : NLt lo hi := d.lt
  have cT : NLe (cTold L) lo := by rw [hlo]; exact Nat.le_refl _
  have cTh : NLt (cTold L) hi := Nat.lt_of_le_of_lt cT hlh
  have cL : NLe L lo := by rw [hlo]; exact Nat.le_add_right _ _
  have iT : NIn lo (cTold L) := ⟨by rw [hlo]; show L + 6 - 6 ≤ L + 1 + 1 + 1 + 1 + 1 + 1; omega, cT⟩
  have iL : NIn lo L := ⟨by rw [hlo]; omega, cL⟩
  have cLh : NLt L hi := Nat.lt_of_le_of_lt cL hlh
  have cW : NLe hi (R (2 * a)) := Nat.le_of_lt (Nat.lt_of_le_of_lt (Nat.le_trans rr.b1 (Nat.le_of_lt rr.b2)) (rr.above _ (by omega)))
  have cR : NLe hi (R (2 * a + 1)) := Nat.le_of_lt (Nat.lt_of_le_of_lt (Nat.le_trans rr.b1 (Nat.le_of_lt rr.b2)) (rr.above _ (by omega)))
  have lW : NLt (L + 6) (R (2 * a)) := by rw [← hlo]; exact Nat.lt_of_lt_of_le hlh cW
  have lR : NLt (L + 6) (R (2 * a + 1)) := by rw [← hlo]; exact Nat.lt_of_lt_of_le hlh cR
  obtain ⟨ts, hts⟩ := lk.size
  obtain ⟨ta, hta⟩ := ck.a
  show wpAny _ _ (execs [stAt bB 0, stAt bB 1, stAt bB 2, stAt bB 3, stAt bB 4, stAt bB 5, stAt bB 6] _) _ _ _
  -- told
  refine wpAny_execs_cons (st_told z d rr lk.games ck.w hta hb asz bsz P.s6 P.g0 P.g1 (P.n0 a asz) (P.n1 b bsz) fun D vs h1 h2 tk1 k1 _ lD iD hc hs => ?_)
  dsimp only
  have p1 := step_of k1 hs
  have z1 := z.cel p1 (c_told L) hc
  have d1 := d.step p1 (.inl iT)
  have r1 := rr.step p1 cTh
  have ck1 : CelOK (fun y => if y = Str.ofString "told" then some (Value.ref D) else cm y) wA lA a := ck.set (by decide) (by decide) (by decide)
  have lD1 : LST h2 D vs := lD.stepN (step_of (Ext.refl _) hs) (ne_cell lD ((z.cl.cell _ _ (c_told L)).keeps k1))
  have ht1 : (fun y => if y = Str.ofString "told" then some (Value.ref D) else cm y) (Str.ofString "told") = some (.ref D) := rfl
  have hb1 : (fun y => if y = Str.ofString "told" then some (Value.ref D) else cm y) (Str.ofString "b") = some (.int b tb) := hb
  generalize (fun y => if y = Str.ofString "told" then some (Value.ref D) else cm y) = cm1 at *
  obtain ⟨_, hta1⟩ := ck1.a
  -- free
  refine wpAny_execs_cons (st_free V.T V.K0 V.KX z1 hts P.s1 P.s6 ht1 lD1 iD fun D2 acc h3 tk2 p2 hnew lD2 ia hn2 => ?_)
  dsimp only
  have z2 := z1.loc p2 hn2
  have d2 := d1.step p2 (.inl iL)
  have r2 := r1.step p2 cLh
  have lk2 : LocOK (fun y => if y = Str.ofString "free" then some (Value.ref D2) else m y) sz gA aA := lk.set (by decide) (by decide) (by decide)
  have lDf : LST h3 D vs := lD1.stepN p2 (ne_ns lD1 z1.fr.ns)
  have hf2 : (fun y => if y = Str.ofString "free" then some (Value.ref D2) else m y) (Str.ofString "free") = some (.ref D2) := rfl
  generalize (fun y => if y = Str.ofString "free" then some (Value.ref D2) else m y) = m2 at *
  obtain ⟨_, hts2⟩ := lk2.size
  -- if
  refine wpAny_execs_cons (st_if1 V.T V.KX z2 hts2 P.s1 P.s6 ht1 lDf iD hf2 lD2 ia fun h4 tk3 k3 => ?_)
  dsimp only
  have z3 := z2.ext k3
  have d3 := d2.ext k3
  have r3 := r2.ext k3
  -- append
  obtain ⟨l, hl⟩ := outs_told P.x8 P.y8 P.g0 P.g1 (P.x a asz) (P.y b bsz) asz bsz (2 * sz - 1) (P.xb a b asz bsz)
  refine wpAny_execs_cons (st_app1 (tb := tb) z3 r3 ck1.w hta1 asz bsz P.s6 hf2 (lD2.ext k3) (hl ▸ ia) fun h5 h6 tk4 k4 s4 r4 => ?_)
  dsimp only
  have p4 := step_of k4 s4
  have z4 := z3.step p4 lW
  have d4 := d3.step p4 (.inr cW)
  -- ends
  refine wpAny_execs_cons (st_ends z4 d4 r4 lk2.games ck1.l hta1 hb1 asz bsz P.s6 P.g0 P.g1 (P.n0 a asz) (P.n1 b bsz) fun D3 h7 h8 tk5 k5 _ lD3 hn5 s5 => ?_)
  dsimp only
  have p5 := step_of k5 s5
  have z5 := z4.loc p5 hn5
  have d5 := d4.step p5 (.inl iL)
  have r5 := r4.step p5 cLh
  have lk5 : LocOK (fun y => if y = Str.ofString "ends" then some (Value.ref D3) else m2 y) sz gA aA := lk2.set (by decide) (by decide) (by decide)
  have lD5 : LST h8 D3 _ := lD3.stepN (step_of (Ext.refl _) s5) (ne_ns lD3 (z4.fr.ns.at' fun o e => k5 _ o e))
  have hf5 : (fun y => if y = Str.ofString "ends" then some (Value.ref D3) else m2 y) (Str.ofString "ends") = some (.ref D3) := rfl
  generalize (fun y => if y = Str.ofString "ends" then some (Value.ref D3) else m2 y) = m5 at *
  -- append
  refine wpAny_execs_cons (st_app2 z5 r5 ck1.l hta1 asz bsz P.s6 hf5 lD5 (ends_is P.x8 P.y8 P.g0 P.g1 (P.x a asz) (P.y b bsz) asz bsz) fun h9 h10 tk6 k6 s6 r6 => ?_)
  dsimp only
  have p6 := step_of k6 s6
  have z6 := z5.step p6 lR
  have d6 := d5.step p6 (.inr cR)
  -- if
  refine wpAny_execs_cons (st_if2 z6 d6 r6 ck1.w ck1.l lk5.alone hta1 hb1 asz bsz P.s6 (P.x8 a asz) (P.y8 b bsz) fun h11 tk7 k7 => ?_)
  dsimp only
  refine wpAny_execs_nil (hQ h11 tk7 m5 cm1 (z6.ext k7) (d6.ext k7) (r6.ext k7) lk5 ck1 fun x o n1 n2 n3 n4 e => ?_)
  exact k7 x o (p6 x o n4 (p5 x o n1 (p4 x o n3 (k3 x o (p2 x o n1 (p1 x o n2 e))))))
end
end Mine
namespace Mine
section
variable {prog : Program} {w : World} {A : Around} {env : Env} {s : Shared}
theorem for_range {iter : Expr} {x : Str} {px pos : Pos} {body : List Stmt} {a b : Nat} {Q : Flow → Shared → Prop} (J : Addr → Nat → Heap → Prop)
    (hh : A.handled = none) (hi : Ev prog w A env iter s.heap (fun y h' => ∃ r t u v, y = .ref r ∧ s.heap.get? r = none ∧ IsRange h' r (a : Int) (b : Int) 1 t u v)) (hab : a ≤ b) (hn : b ≤ 1000)
    (hs : ∀ x, foldedSetIterable iter env x = pure x)
    (h0 : ∀ it h', Ext s.heap h' → Abv s.heap it → J it a h')
    (hJ : ∀ it i h h', Abv s.heap it → J it i h → Step it h h' → J it i h')
    (hb : ∀ it i t h' tk (Q' : Flow → Shared → Prop), a ≤ i → i < b → Abv s.heap it → J it i h' → (∃ o, h'.get? it = some o) →
      (∀ h'' tk, J it (i + 1) h'' → (∀ o, h'.get? it = some o → h''.get? it = some o) → Q' .next { s with heap := h'', toks := tk }) →
      wpAny (model prog w) A (assign (.Name x px) env (.int i t)) (fun _ s2 => wpAny (model prog w) A (execs body env) Q' NoE s2) NoE { s with heap := h', toks := tk })
    (hQ : ∀ it h' tk, Abv s.heap it → J it b h' → Q .next { s with heap := h', toks := tk }) (ht : ∀ it v, letOwnedTupleGo (.Name x px) it v = pure ()) :
    wpAny (model prog w) A (exec (.For (.Name x px) iter body [] pos) env) Q NoE s := by
  refine wpAny_For (hi s _ _ (Ext.refl _) fun y s1 hy k1 => ?_) hs
  obtain ⟨r, t, u, v, rfl, _, hr⟩ := hy
  obtain ⟨h1, t1, rfl, e1⟩ := k1
  have hz : Builtin.Range.rangeSize (a : Int) (b : Int) 1 = ((b - a : Nat) : Int) := by rw [rangeSize_nat]; omega
  refine wpAny_pyIter_range hr (small_one (by omega) (by omega) (by omega) (by omega)) ?_
  have hA : Abv s.heap h1.objs.size := abv_of e1
  refine codeAny_forLoop (fun k s' => ∃ i h' tk, k = b - i ∧ a ≤ i ∧ i ≤ b ∧ J h1.objs.size i h' ∧ IsRangeIter h' h1.objs.size (i : Int) ((b - i : Nat) : Int) 1 ∧ s' = { s with heap := h', toks := tk }) ?_ (b - a) ⟨a, _, _, rfl, Nat.le_refl _, hab, h0 _ _ (fun x o q => Heap.get?_push_of_some _ (e1 x o q)) hA, ?_, rfl⟩ (ht _)
  · rintro k s' ⟨i, h', tk, rfl, ai, ib, hj, hit, rfl⟩
    by_cases hlt : i < b
    · refine wpAny_pyNext_range_item hit (by omega) fun h'' hit' sb => ?_
      have e2 : IsRangeIter h'' h1.objs.size ((i + 1 : Nat) : Int) ((b - (i + 1) : Nat) : Int) 1 := by
        have q1 : ((i + 1 : Nat) : Int) = (i : Int) + 1 := by omega
        have q2 : ((b - (i + 1) : Nat) : Int) = ((b - i : Nat) : Int) - 1 := by omega
        rw [q1, q2]; exact hit'
      refine wpAny_mono (hb h1.objs.size i tk h'' (tk + 1) _ ai hlt hA (hJ _ _ _ _ hA hj sb.extBut) ⟨_, hit'⟩ ?_) (fun _ s2 h2 => wpAny_mono h2 (fun _ _ q => q) fun _ _ f => f.elim) fun _ _ f => f.elim
      intro h3 tk3 hj3 hk3
      exact ⟨b - (i + 1), by omega, i + 1, h3, tk3, rfl, by omega, hlt, hj3, hk3 _ e2, rfl⟩
    · have e : i = b := by omega
      subst e
      refine wpAny_pyNext_range_end hh hit (by omega) fun h'' eb => ?_
      exact wpAny_execs_nil (hQ _ _ _ hA (hJ _ _ _ _ hA hj eb))
  · show IsRangeIter _ _ _ _ _
    rw [← hz]
    exact Heap.get?_push_size _ rfl
theorem for_list {iter : Expr} {x : Str} {px pos : Pos} {body : List Stmt} {l : Addr} {vs : List Value} {Q : Flow → Shared → Prop} (J : Addr → Nat → Heap → Prop)
    (hh : A.handled = none) (hi : Ev prog w A env iter s.heap (IsR l)) (hl : LST s.heap l vs)
    (hs : ∀ x, foldedSetIterable iter env x = pure x)
    (h0 : ∀ it h', Ext s.heap h' → Abv s.heap it → J it 0 h')
    (hJ : ∀ it i h h', Abv s.heap it → J it i h → Step it h h' → J it i h')
    (hJl : ∀ it i h, J it i h → LST h l vs)
    (hb : ∀ it i v h' tk (Q' : Flow → Shared → Prop), vs[i]? = some v → Abv s.heap it → J it i h' → (∃ o, h'.get? it = some o) →
      (∀ h'' tk, J it (i + 1) h'' → (∀ o, h'.get? it = some o → h''.get? it = some o) → Q' .next { s with heap := h'', toks := tk }) →
      wpAny (model prog w) A (assign (.Name x px) env v) (fun _ s2 => wpAny (model prog w) A (execs body env) Q' NoE s2) NoE { s with heap := h', toks := tk })
    (hQ : ∀ it h' tk, Abv s.heap it → J it vs.length h' → Q .next { s with heap := h', toks := tk }) (ht : ∀ it v, letOwnedTupleGo (.Name x px) it v = pure ()) :
    wpAny (model prog w) A (exec (.For (.Name x px) iter body [] pos) env) Q NoE s := by
  refine wpAny_For (hi s _ _ (Ext.refl _) fun y s1 hy k1 => ?_) hs
  subst hy
  obtain ⟨h1, t1, rfl, e1⟩ := k1
  refine wpAny_pyIter_list (hl.ext e1).isList ?_
  have hA : Abv s.heap h1.objs.size := abv_of e1
  have hj0 : J h1.objs.size 0 (h1.push { cls := .type "list_iterator", data := .fields #[.ref l, .int 0 0] }) := h0 _ _ (fun x o q => Heap.get?_push_of_some _ (e1 x o q)) hA
  refine codeAny_forLoop (fun k s' => ∃ i h' tk, k = vs.length - i ∧ i ≤ vs.length ∧ J h1.objs.size i h' ∧ h'.IsListIter h1.objs.size l i ∧ s' = { s with heap := h', toks := tk }) ?_ vs.length ⟨0, _, _, rfl, Nat.zero_le _, hj0, ⟨_, Heap.get?_push_size _ rfl, rfl, rfl⟩, rfl⟩ (ht _)
  rintro k s' ⟨i, h', tk, rfl, ib, hj, hit, rfl⟩
  by_cases hlt : i < vs.length
  · have hx : vs[i]? = some vs[i] := by simp [hlt]
    refine wpAny_pyNext_list_item (items := vs.toArray) (x := vs[i]) hit (hJl _ _ _ hj).isList (by simpa using hx) fun h'' hit' sb => ?_
    obtain ⟨o, ho, q⟩ := id hit'
    refine wpAny_mono (hb h1.objs.size i vs[i] h'' tk _ hx hA (hJ _ _ _ _ hA hj sb.extBut) ⟨_, ho⟩ ?_) (fun _ s2 h2 => wpAny_mono h2 (fun _ _ q => q) fun _ _ f => f.elim) fun _ _ f => f.elim
    intro h3 tk3 hj3 hk3
    exact ⟨vs.length - (i + 1), by omega, i + 1, h3, tk3, rfl, hlt, hj3, ⟨o, hk3 _ ho, q⟩, rfl⟩
  · have e : i = vs.length := by omega
    subst e
    refine wpAny_pyNext_list_end hh hit (hJl _ _ _ hj).isList (by simp) fun h'' eb => ?_
    exact wpAny_execs_nil (hQ _ _ _ hA (hJ _ _ _ _ hA hj eb))
end
end Mine
namespace Mine
section
variable {w : World} {h₀ : Heap} {L : Nat} {fa : Addr} {cd : Value} {m cm : Str → Option Value} {lo hi : Nat} {sz : Nat} {gA aA g0 g1 x0 x1 wA lA : Addr} {W0 W1 : Nat → Addr} {G0 G1 : Nat → List Nat} {X Y : Nat → Nat} {R : Nat → Addr} {a b bw bl : Nat} {s : Shared} {h h' : Heap}
  {mg mb : Str → Option Value} {mean : ExcName → Option Value}
theorem Rows.le (x : Rows hi h sz wA lA R X Y a bw bl) (i : Nat) (hi' : i ≤ 2 * a + 1) : NLe (R i) (R (2 * a + 1)) := by
  by_cases e : i = 2 * a + 1
  · rw [e]; exact Nat.le_refl _
  · exact Nat.le_of_lt (x.up i _ (by omega) (Nat.le_refl _))
theorem Rows.stepTop {c : Addr} (x : Rows hi h sz wA lA R X Y a bw bl) (s : Step c h h') (hc : NLt (R (2 * a + 1)) c) : Rows hi h' sz wA lA R X Y a bw bl := by
  have h1 := x.b2
  have h3 := x.above (2 * a + 1) (Nat.le_refl _)
  refine ⟨x.w.stepN s (Nat.ne_of_lt (Nat.lt_trans (Nat.lt_trans h1 h3) hc)), x.l.stepN s (Nat.ne_of_lt (Nat.lt_trans h3 hc)), fun i hi' => ?_, fun i hi' => ?_, x.up, x.b1, x.b2, x.b3⟩
  · obtain ⟨vs, p, q⟩ := x.rw i hi'
    exact ⟨vs, p.stepN s (Nat.ne_of_lt (Nat.lt_of_le_of_lt (x.le _ (by omega)) hc)), q⟩
  · exact (x.rl i hi').stepN s (Nat.ne_of_lt (Nat.lt_of_le_of_lt (x.le _ (by omega)) hc))
theorem Rows.hi_le (x : Rows hi h sz wA lA R X Y a bw bl) (i : Nat) (hi' : i ≤ 2 * a + 1) : NLt hi (R i) := Nat.lt_of_le_of_lt x.b1 (Nat.lt_trans x.b2 (x.above i hi'))
abbrev cB (L : Nat) : Addr := L + 1 + 1 + 1 + 1 + 1
abbrev cA (L : Nat) : Addr := L + 1 + 1 + 1 + 1
theorem c_b (L : Addr) : (cellsL L).lookup (Str.ofString "b") = some (cB L) := by rfl
theorem c_a (L : Addr) : (cellsL L).lookup (Str.ofString "a") = some (cA L) := by rfl
theorem for_b (V : Env0 w h₀ mg mb mean) (P : Law sz G0 G1 X Y) (hlo : lo = L + 6) (z : LS h₀ L s.heap m cm) (d : Dat lo hi s.heap sz gA aA g0 g1 x0 x1 W0 W1 G0 G1 X Y) (rr : Rows hi s.heap sz wA lA R X Y a 0 0)
    (lk : LocOK m sz gA aA) (ck : CelOK cm wA lA a) (asz : a < sz) {Q : Flow → Shared → Prop}
    (hQ : ∀ h' tk m' cm', LS h₀ L h' m' cm' → Dat lo hi h' sz gA aA g0 g1 x0 x1 W0 W1 G0 G1 X Y → Rows hi h' sz wA lA R X Y a sz sz → LocOK m' sz gA aA → CelOK cm' wA lA a →
      (∀ x o, x ≠ L → x ≠ cTold L → x ≠ cB L → x ≠ R (2 * a) → x ≠ R (2 * a + 1) → s.heap.get? x = some o → h'.get? x = some o) → Q .next { s with heap := h', toks := tk }) :
    wpAny (model PR w) (AL L fa cd) (exec (stAt aB 2) (envL L fa cd)) Q NoE s := by
  have hlh : NLt lo hi := d.lt
  have hRlt : ∀ it, Abv s.heap it → NLt (R (2 * a + 1)) it := fun it hA => by
    obtain ⟨c, e⟩ := rr.rl a (Nat.le_refl _)
    exact hA _ _ e
  have hhi : NLt hi (R (2 * a + 1)) := rr.hi_le _ (Nat.le_refl _)
  obtain ⟨ts, hts⟩ := lk.size
  refine for_range (a := 0) (b := sz) (fun it b h => ∃ m' cm', LS h₀ L h m' cm' ∧ Dat lo hi h sz gA aA g0 g1 x0 x1 W0 W1 G0 G1 X Y ∧ Rows hi h sz wA lA R X Y a b b ∧ LocOK m' sz gA aA ∧ CelOK cm' wA lA a ∧
    (∀ x o, x ≠ L → x ≠ cTold L → x ≠ cB L → x ≠ R (2 * a) → x ≠ R (2 * a + 1) → s.heap.get? x = some o → h.get? x = some o)) rfl
    (ev_range1 (evRange V.T V.KX z.fr) ((ev_loc z.fr.ns hts rfl rfl (by decide)).mono fun y _ _ e => ⟨_, e⟩) rfl) (Nat.zero_le _) (by have := P.s6; omega) (fun _ => rfl) ?_ ?_ ?_ ?_ (fun _ _ => rfl)
  · intro it h' e _
    exact ⟨m, cm, z.ext e, d.ext e, rr.ext e, lk, ck, fun x o _ _ _ _ _ q => e x o q⟩
  · rintro it b h h' hA ⟨m', cm', z', d', r', l', c', k'⟩ st
    have h1 := hRlt it hA
    have h2 : NLt hi it := Nat.lt_trans hhi h1
    refine ⟨m', cm', z'.step st ?_, d'.step st (.inr (Nat.le_of_lt h2)), r'.stepTop st h1, l', c', fun x o n1 n2 n3 n4 n5 q => st x o (Nat.ne_of_lt (hA _ _ q)) (k' x o n1 n2 n3 n4 n5 q)⟩
    rw [← hlo]; exact Nat.lt_trans hlh h2
  · rintro it b t h' tk Q' _ hb hA ⟨m', cm', z', d', r', l', c', k'⟩ ⟨oi, hoi⟩ hq
    have h1 := hRlt it hA
    have h2 : NLt hi it := Nat.lt_trans hhi h1
    have h3 : NLt (L + 6) it := by rw [← hlo]; exact Nat.lt_trans hlh h2
    refine wpAny_assign_Name (wpAny_storeName_cell (c := cB L) rfl rfl rfl (z'.cl.cell _ _ (c_b L)) fun h2 hc sb => ?_)
    have st : Step (cB L) h' h2 := sb.extBut
    have cb1 : NLe (cB L) lo := by rw [hlo]; show L + 1 + 1 + 1 + 1 + 1 ≤ L + 6; omega
    have z1 := z'.cel st (c_b L) hc
    refine body_ab V P hlo z1 (d'.step st (.inl ⟨by rw [hlo]; show L + 6 - 6 ≤ L + 1 + 1 + 1 + 1 + 1; omega, cb1⟩)) (r'.step st (Nat.lt_of_le_of_lt cb1 hlh)) l' (c'.set (by decide) (by decide) (by decide)) rfl asz hb ?_
    intro h4 tk4 m4 cm4 z4 d4 r4 l4 c4 k4
    refine hq h4 tk4 ⟨m4, cm4, z4, d4, r4, l4, c4, fun x o n1 n2 n3 n4 n5 q => k4 x o n1 n2 n4 n5 (st x o n3 (k' x o n1 n2 n3 n4 n5 q))⟩ fun o q => k4 it o ?_ ?_ ?_ ?_ (st it o ?_ q)
    · exact Nat.ne_of_gt (by dsimp only [NLt] at h3 ⊢; omega)
    · exact Nat.ne_of_gt (by dsimp only [NLt] at h3 ⊢; show L + 1 + 1 + 1 + 1 + 1 + 1 < _; omega)
    · exact Nat.ne_of_gt (Nat.lt_of_le_of_lt (rr.le _ (by omega)) h1)
    · exact Nat.ne_of_gt h1
    · exact Nat.ne_of_gt (by dsimp only [NLt] at h3 ⊢; show L + 1 + 1 + 1 + 1 + 1 < _; omega)
  · rintro it h' tk _ ⟨m', cm', z', d', r', l', c', k'⟩
    exact hQ h' tk m' cm' z' d' r' l' c' k'

/-- n whole rows -/
structure RowsC (hi : Nat) (h : Heap) (sz : Nat) (wA lA : Addr) (R : Nat → Addr) (X Y : Nat → Nat) (n : Nat) : Prop where
  w : LST h wA (refs n fun i => R (2 * i))
  l : LST h lA (refs n fun i => R (2 * i + 1))
  rw : ∀ i, i < n → ∃ vs, LST h (R (2 * i)) vs ∧ IntsAre vs (zOf (rowX X Y i sz))
  rl : ∀ i, i < n → LST h (R (2 * i + 1)) ((rowL X Y i sz).map Value.bool)
  up : ∀ i j, i < j → j < 2 * n → NLt (R i) (R j)
  b1 : NLe hi wA
  b2 : NLt wA lA
  b3 : ∀ i, i < 2 * n → NLt lA (R i)
theorem RowsC.live {n : Nat} (x : RowsC hi h sz wA lA R X Y n) (i : Nat) (hi' : i < 2 * n) : ∃ o, h.get? (R i) = some o := by
  obtain ⟨k, e | e⟩ : ∃ k, i = 2 * k ∨ i = 2 * k + 1 := ⟨i / 2, by omega⟩
  · subst e; obtain ⟨vs, ⟨c, p⟩, _⟩ := x.rw k (by omega); exact ⟨_, p⟩
  · subst e; obtain ⟨c, p⟩ := x.rl k (by omega); exact ⟨_, p⟩
theorem RowsC.stepN {n : Nat} {c : Addr} (x : RowsC hi h sz wA lA R X Y n) (s : Step c h h') (n1 : wA ≠ c) (n2 : lA ≠ c) (n3 : ∀ i, i < 2 * n → R i ≠ c) : RowsC hi h' sz wA lA R X Y n :=
  ⟨x.w.stepN s n1, x.l.stepN s n2, fun i hi' => let ⟨vs, p, q⟩ := x.rw i hi'; ⟨vs, p.stepN s (n3 _ (by omega)), q⟩, fun i hi' => (x.rl i hi').stepN s (n3 _ (by omega)), x.up, x.b1, x.b2, x.b3⟩
theorem RowsC.of {a : Nat} (x : Rows hi h sz wA lA R X Y a sz sz) : RowsC hi h sz wA lA R X Y (a + 1) :=
  ⟨x.w, x.l, fun i hi' => by obtain ⟨vs, p, q⟩ := x.rw i (by omega); exact ⟨vs, p, by rw [ite_self] at q; exact q⟩, fun i hi' => by have := x.rl i (by omega); rw [ite_self] at this; exact this, fun i j h1 h2 => x.up i j h1 (by omega), x.b1, x.b2, fun i hi' => x.above i (by omega)⟩
def Rput (R : Nat → Addr) (n : Nat) (D1 D2 : Addr) : Nat → Addr := fun i => if i = 2 * n then D1 else if i = 2 * n + 1 then D2 else R i
theorem refs_succ (n : Nat) (f : Nat → Addr) : refs (n + 1) f = refs n f ++ [.ref (f n)] := by simp [refs, List.range_succ]
theorem refs_congr {n : Nat} {f g : Nat → Addr} (e : ∀ i, i < n → f i = g i) : refs n f = refs n g := List.map_congr_left fun i hi => by rw [e i (List.mem_range.mp hi)]
theorem RowsC.new {n : Nat} {D1 D2 : Addr} {h2 : Heap} (x : RowsC hi h sz wA lA R X Y n) (w2 : LST h2 wA (refs n (fun i => R (2 * i)) ++ [.ref D1])) (l2 : LST h2 lA (refs n (fun i => R (2 * i + 1)) ++ [.ref D2]))
    (d1 : LST h2 D1 []) (d2 : LST h2 D2 []) (a1 : Abv h D1) (d12 : NLt D1 D2) (k : ∀ y o, y ≠ wA → y ≠ lA → h.get? y = some o → h2.get? y = some o) : Rows hi h2 sz wA lA (Rput R n D1 D2) X Y n 0 0 := by
  have hR : ∀ i, i < 2 * n → Rput R n D1 D2 i = R i := fun i hi' => by unfold Rput; rw [if_neg (by omega), if_neg (by omega)]
  have h1 : Rput R n D1 D2 (2 * n) = D1 := by unfold Rput; rw [if_pos rfl]
  have h2 : Rput R n D1 D2 (2 * n + 1) = D2 := by unfold Rput; rw [if_neg (by omega), if_pos rfl]
  have hlt : ∀ i, i < 2 * n → NLt (R i) D1 := fun i hi' => let ⟨o, e⟩ := x.live i hi'; a1 _ _ e
  have hl1 : NLt lA D1 := let ⟨c, e⟩ := x.l; a1 _ _ e
  have hw : ∀ i, i < 2 * n → R i ≠ wA := fun i hi' => Nat.ne_of_gt (Nat.lt_trans x.b2 (x.b3 i hi'))
  have hl : ∀ i, i < 2 * n → R i ≠ lA := fun i hi' => Nat.ne_of_gt (x.b3 i hi')
  refine ⟨?_, ?_, fun i hi' => ?_, fun i hi' => ?_, fun i j hij hj => ?_, x.b1, x.b2, ?_⟩
  · rw [refs_succ, h1, refs_congr (g := fun i => R (2 * i)) fun i hi' => hR _ (by omega)]; exact w2
  · rw [refs_succ, h2, refs_congr (g := fun i => R (2 * i + 1)) fun i hi' => hR _ (by omega)]; exact l2
  · by_cases e : i < n
    · rw [hR _ (by omega), if_pos e]
      obtain ⟨vs, ⟨c, p⟩, q⟩ := x.rw i e
      exact ⟨vs, ⟨c, k _ _ (hw _ (by omega)) (hl _ (by omega)) p⟩, q⟩
    · have : i = n := by omega
      subst this
      rw [h1, if_neg e]
      exact ⟨[], d1, .nil⟩
  · by_cases e : i < n
    · rw [hR _ (by omega), if_pos e]
      obtain ⟨c, p⟩ := x.rl i e
      exact ⟨c, k _ _ (hw _ (by omega)) (hl _ (by omega)) p⟩
    · have : i = n := by omega
      subst this
      rw [h2, if_neg e]
      exact d2
  · by_cases e : j < 2 * n
    · rw [hR _ e, hR _ (by omega)]; exact x.up i j hij e
    · by_cases e2 : j = 2 * n
      · subst e2; rw [h1, hR _ (by omega)]; exact hlt _ (by omega)
      · have : j = 2 * n + 1 := by omega
        subst this
        rw [h2]
        by_cases e3 : i = 2 * n
        · subst e3; rw [h1]; exact d12
        · rw [hR _ (by omega)]; exact Nat.lt_trans (hlt _ (by omega)) d12
  · by_cases e : 0 < 2 * n
    · rw [hR _ e]; exact x.b3 0 e
    · have : n = 0 := by omega
      subst this
      rw [show Rput R 0 D1 D2 0 = D1 from h1]; exact hl1
end
end Mine
namespace Mine
section
variable {w : World} {h₀ : Heap} {L : Nat} {fa : Addr} {cd : Value} {m cm : Str → Option Value} {lo hi : Nat} {sz : Nat} {gA aA g0 g1 x0 x1 wA lA : Addr} {W0 W1 : Nat → Addr} {G0 G1 : Nat → List Nat} {X Y : Nat → Nat} {R : Nat → Addr} {a b bw bl : Nat} {s : Shared} {h h' : Heap}
  {mg mb : Str → Option Value} {mean : ExcName → Option Value}
theorem LS.live (z : LS h₀ L h m cm) : ∃ o, h.get? L = some o := by
  obtain ⟨o, _, _, e, _⟩ := z.fr.ns
  exact ⟨o, e⟩
theorem LS.liveC (z : LS h₀ L h m cm) {x : Str} {c : Addr} (e : (cellsL L).lookup x = some c) : ∃ o, h.get? c = some o := by
  obtain ⟨o, e, _⟩ := z.cl.cell x c e
  exact ⟨o, e⟩
theorem for_a (V : Env0 w h₀ mg mb mean) (P : Law sz G0 G1 X Y) (hlo : lo = L + 6) (z : LS h₀ L s.heap m cm) (d : Dat lo hi s.heap sz gA aA g0 g1 x0 x1 W0 W1 G0 G1 X Y)
    (lk : LocOK m sz gA aA) (hw : cm (Str.ofString "worths") = some (.ref wA)) (hl : cm (Str.ofString "lost") = some (.ref lA)) (lw : LST s.heap wA []) (ll : LST s.heap lA []) (b1 : NLe hi wA) (b2 : NLt wA lA) {Q : Flow → Shared → Prop}
    (hQ : ∀ h' tk m' cm', LS h₀ L h' m' cm' → Q .next { s with heap := h', toks := tk }) :
    wpAny (model PR w) (AL L fa cd) (exec (stAt lawB 6) (envL L fa cd)) Q NoE s := by
  have hlh : NLt lo hi := d.lt
  have hlA : ∀ it, Abv s.heap it → NLt lA it := fun it hA => by
    obtain ⟨c, e⟩ := ll
    exact hA _ _ e
  have hhi : NLt hi lA := Nat.lt_of_le_of_lt b1 b2
  obtain ⟨ts, hts⟩ := lk.size
  refine for_range (a := 0) (b := sz) (fun it a h => ∃ m' cm' R, LS h₀ L h m' cm' ∧ Dat lo hi h sz gA aA g0 g1 x0 x1 W0 W1 G0 G1 X Y ∧ RowsC hi h sz wA lA R X Y a ∧ LocOK m' sz gA aA ∧ cm' (Str.ofString "worths") = some (.ref wA) ∧ cm' (Str.ofString "lost") = some (.ref lA) ∧
    (∀ i, i < 2 * a → R i ≠ it)) rfl
    (ev_range1 (evRange V.T V.KX z.fr) ((ev_loc z.fr.ns hts rfl rfl (by decide)).mono fun y _ _ e => ⟨_, e⟩) rfl) (Nat.zero_le _) (by have := P.s6; omega) (fun _ => rfl) ?_ ?_ ?_ ?_ (fun _ _ => rfl)
  · intro it h' e hA
    exact ⟨m, cm, fun _ => 0, z.ext e, d.ext e, ⟨lw.ext e, ll.ext e, fun i hi' => absurd hi' (Nat.not_lt_zero _), fun i hi' => absurd hi' (Nat.not_lt_zero _), fun i j _ hj => absurd hj (by omega), b1, b2, fun i hi' => absurd hi' (by omega)⟩, lk, hw, hl, fun i hi' => absurd hi' (by omega)⟩
  · rintro it a h h' hA ⟨m', cm', R, z', d', r', l', w', lo', ni⟩ st
    have h1 := hlA it hA
    have h2 : NLt hi it := Nat.lt_trans hhi h1
    refine ⟨m', cm', R, z'.step st ?_, d'.step st (.inr (Nat.le_of_lt h2)), r'.stepN st (Nat.ne_of_lt (Nat.lt_trans b2 h1)) (Nat.ne_of_lt h1) ni, l', w', lo', ni⟩
    rw [← hlo]; exact Nat.lt_trans hlh h2
  · rintro it a t h' tk Q' _ ha hA ⟨m', cm', R, z', d', r', l', w', lo', ni⟩ ⟨oi, hoi⟩ hq
    have h1 := hlA it hA
    have h2 : NLt hi it := Nat.lt_trans hhi h1
    have h3 : NLt (L + 6) it := by rw [← hlo]; exact Nat.lt_trans hlh h2
    refine wpAny_assign_Name (wpAny_storeName_cell (c := cA L) rfl rfl rfl (z'.cl.cell _ _ (c_a L)) fun h2 hc sb => ?_)
    have st : Step (cA L) h' h2 := sb.extBut
    have ca1 : NLe (cA L) lo := by rw [hlo]; show L + 1 + 1 + 1 + 1 ≤ L + 6; omega
    have cah : NLt (cA L) hi := Nat.lt_of_le_of_lt ca1 hlh
    have z1 := z'.cel st (c_a L) hc
    have d1 := d'.step st (.inl ⟨by rw [hlo]; show L + 6 - 6 ≤ L + 1 + 1 + 1 + 1; omega, ca1⟩)
    have cR : ∀ i, i < 2 * a → R i ≠ cA L := fun i hi' => Nat.ne_of_gt (Nat.lt_trans cah (Nat.lt_trans hhi (r'.b3 i hi')))
    have r1 := r'.stepN st (Nat.ne_of_gt (Nat.lt_of_lt_of_le cah b1)) (Nat.ne_of_gt (Nat.lt_trans cah hhi)) cR
    have ck1 : CelOK (fun y => if y = Str.ofString "a" then some (Value.int a t) else cm' y) wA lA a := ⟨w', lo', t, rfl⟩
    have n1 : it ≠ cA L := Nat.ne_of_gt (Nat.lt_of_le_of_lt (show cA L ≤ L + 6 by show L + 1 + 1 + 1 + 1 ≤ L + 6; omega) h3)
    have hoi1 := st it oi n1 hoi
    generalize (fun y => if y = Str.ofString "a" then some (Value.int a t) else cm' y) = cm1 at *
    show wpAny _ _ (execs [stAt aB 0, stAt aB 1, stAt aB 2] _) _ _ _
    have sz6 := P.s6
    -- worths.append([])
    refine wpAny_execs_cons (ex_append (l := wA) (ev_cell (z1.cellv (x := Str.ofString "worths") rfl ck1.w) rfl rfl rfl (by decide)) ev_list0 r1.w (by simp [refs]; omega) ?_ rfl rfl rfl rfl)
    intro y1 h3' h4 tk4 hy1 k4 hl4 s4
    obtain ⟨D1, rfl, a1, ld1⟩ := hy1
    dsimp only
    have p4 : Step wA h2 h4 := step_of k4 s4
    have lW : NLt (L + 6) wA := by rw [← hlo]; exact Nat.lt_of_lt_of_le hlh b1
    have z4 := z1.step p4 lW
    have d4 := d1.step p4 (.inr b1)
    have lwlt : NLt wA D1 := let ⟨c, e⟩ := r1.w; a1 _ _ e
    have ld14 : LST h4 D1 [] := ld1.stepN s4.extBut (Nat.ne_of_gt lwlt)
    have ll4 : LST h4 lA _ := r1.l.stepN p4 (Nat.ne_of_gt b2)
    -- lost.append([])
    refine wpAny_execs_cons (ex_append (l := lA) (ev_cell (z4.cellv (x := Str.ofString "lost") rfl ck1.l) rfl rfl rfl (by decide)) ev_list0 ll4 (by simp [refs]; omega) ?_ rfl rfl rfl rfl)
    intro y2 h5 h6 tk6 hy2 k6 hl6 s6
    obtain ⟨D2, rfl, a2, ld2⟩ := hy2
    dsimp only
    have p6 : Step lA h4 h6 := step_of k6 s6
    have lL : NLt (L + 6) lA := Nat.lt_trans lW b2
    have z6 := z4.step p6 lL
    have d6 := d4.step p6 (.inr (Nat.le_of_lt hhi))
    have lllt : NLt lA D2 := let ⟨c, e⟩ := ll4; a2 _ _ e
    have hll1 : NLt lA D1 := let ⟨c, e⟩ := r1.l; a1 _ _ e
    have ld26 : LST h6 D2 [] := ld2.stepN s6.extBut (Nat.ne_of_gt lllt)
    have ld16 : LST h6 D1 [] := ld14.stepN p6 (Nat.ne_of_gt hll1)
    have hl46 : LST h6 wA _ := LST.stepN hl4 p6 (Nat.ne_of_lt b2)
    have d12 : NLt D1 D2 := let ⟨c, e⟩ := ld14; a2 _ _ e
    have kk : ∀ y o, y ≠ wA → y ≠ lA → h2.get? y = some o → h6.get? y = some o := fun y o q1 q2 e => p6 y o q2 (p4 y o q1 e)
    have r6 := r1.new hl46 hl6 ld16 ld26 a1 d12 kk
    have e1 : Rput R a D1 D2 (2 * a) = D1 := by unfold Rput; rw [if_pos rfl]
    have e2 : Rput R a D1 D2 (2 * a + 1) = D2 := by unfold Rput; rw [if_neg (by omega), if_pos rfl]
    have i1 : NLt it D1 := a1 _ _ hoi1
    have ni6 : ∀ i, i < 2 * (a + 1) → Rput R a D1 D2 i ≠ it := fun i hi' => by
      by_cases q : i < 2 * a
      · rw [show Rput R a D1 D2 i = R i by unfold Rput; rw [if_neg (by omega), if_neg (by omega)]]; exact ni i q
      · by_cases q2 : i = 2 * a
        · rw [q2, e1]; exact Nat.ne_of_gt i1
        · have : i = 2 * a + 1 := by omega
          rw [this, e2]; exact Nat.ne_of_gt (Nat.lt_trans i1 d12)
    refine wpAny_execs_cons (for_b V P hlo z6 d6 r6 l' ck1 ha ?_)
    intro h7 tk7 m7 cm7 z7 d7 r7 l7 c7 k7
    dsimp only
    refine wpAny_execs_nil (hq h7 tk7 ⟨m7, cm7, _, z7, d7, .of r7, l7, c7.w, c7.l, ni6⟩ fun o q => k7 it o ?_ ?_ ?_ ?_ ?_ (kk it o ?_ ?_ (st it o n1 q)))
    · exact Nat.ne_of_gt (by dsimp only [NLt] at h3 ⊢; omega)
    · exact Nat.ne_of_gt (by dsimp only [NLt] at h3 ⊢; show L + 1 + 1 + 1 + 1 + 1 + 1 < _; omega)
    · exact Nat.ne_of_gt (by dsimp only [NLt] at h3 ⊢; show L + 1 + 1 + 1 + 1 + 1 < _; omega)
    · exact (ni6 _ (by omega)).symm
    · exact (ni6 _ (by omega)).symm
    · exact Nat.ne_of_gt (Nat.lt_trans b2 h1)
    · exact Nat.ne_of_gt h1
  · rintro it h' tk _ ⟨m', cm', R, z', d', r', l', w', lo', ni⟩
    exact hQ h' tk m' cm' z'
end
end Mine
namespace Mine
section
variable {prog : Program} {w : World} {A : Around} {s : Shared} {K : Frag} {R : Result → Shared → Prop}
theorem code_def0C {name qual : Str} {params : Arguments} {body : List Stmt} {scope : Scope} {dV kV doc pm cdv ct oc : Value} {an od : Option Addr} {osl : Array (Option Value)} {f : Addr} {vals : List Value} {binds : List (Str × Value)}
    (X : K.In s.heap) (hlim : s.heap.NoLimit) (ho : K.lookup f = some ⟨oc, od, .func (fnOf name qual params body scope dV kV doc pm an cdv ct), osl⟩) (hcd : codeIn K cdv qual = true) (hroom : A.depth < recursionLimit)
    (hbind : bindArgs (fnOf name qual params body scope dV kV doc pm an cdv ct) ⟨vals, []⟩ = pure binds)
    (hkind : ∀ x ∈ binds, scope.names.lookup x.1 = some .local ∨ (scope.names.lookup x.1 = some .cell ∧ ((cellsFrom (s.heap.objs.size + 1) scope.names []).lookup x.1).isSome = true))
    (h : ∀ s₁, InCallC s s.heap.objs.size (bindL (envOfC qual scope s.heap.objs.size f cdv).kindOf binds fun _ => none) (cellsFrom (s.heap.objs.size + 1) scope.names []) (bindC (envOfC qual scope s.heap.objs.size f cdv).kindOf binds fun _ => none) s₁ →
      wpAny (model prog w) (A.deeper (envOfC qual scope s.heap.objs.size f cdv)) (execs body (envOfC qual scope s.heap.objs.size f cdv)) (fun fl s' => R (.ok (.ret (match fl with | .ret v => v | _ => .none))) s') NoE s₁)
    (hco : scope.isCoroutine = false) (hgen : scope.isGenerator = false) (hk : scope.kind = .function) : codeAny (model prog w) A (.call (.ref f) ⟨vals, []⟩) R s :=
  codeAny_call_cells (fd := fnOf name qual params body scope dV kV doc pm an cdv ct) hroom (X _ _ ho) rfl hlim (codeRec_of X hcd) rfl hbind rfl hkind (fun s₁ x => wpAny_mono (h s₁ x) (fun _ _ q => q) fun _ _ f => f.elim) hco hgen hk
end
/-- the value at j -/
def vX (xs : List Nat) (j : Nat) : Nat := xs.getD j 0
theorem vX_app {xs : List Nat} {n j : Nat} (h : j < xs.length) : vX (xs ++ [n]) j = vX xs j := by simp [vX, List.getD, List.getElem?_append_left h]
theorem vX_last {xs : List Nat} {n : Nat} : vX (xs ++ [n]) xs.length = n := by simp [vX, List.getD]
theorem vX_all (xs : List Nat) : (List.range xs.length).map (vX xs) = xs := by
  apply List.ext_getElem
  · simp
  · intro i h1 h2; simp [vX, List.getD, h2]
theorem mex_app {xs : List Nat} {n : Nat} {G : Nat → List Nat} (hG : ∀ a, a ≤ xs.length → ∀ r ∈ G a, r < a) (hM : ∀ a, a < xs.length → Mex (vX xs) G a) (h1 : ∀ v, v < n → ∃ r ∈ G xs.length, vX xs r = v) (h2 : ∀ r ∈ G xs.length, vX xs r ≠ n) :
    ∀ a, a < xs.length + 1 → Mex (vX (xs ++ [n])) G a := by
  intro a ha
  by_cases e : a = xs.length
  · subst e
    refine ⟨fun v hv => ?_, fun r hr => ?_⟩
    · rw [vX_last] at hv
      obtain ⟨r, hr, q⟩ := h1 v hv
      exact ⟨r, hr, by rw [vX_app (hG _ (Nat.le_refl _) r hr)]; exact q⟩
    · rw [vX_last, vX_app (hG _ (Nat.le_refl _) r hr)]; exact h2 r hr
  · have hlt : a < xs.length := by omega
    refine ⟨fun v hv => ?_, fun r hr => ?_⟩
    · rw [vX_app hlt] at hv
      obtain ⟨r, hr, q⟩ := (hM a hlt).all v hv
      exact ⟨r, hr, by rw [vX_app (Nat.lt_trans (hG a (by omega) r hr) hlt)]; exact q⟩
    · rw [vX_app hlt, vX_app (Nat.lt_trans (hG a (by omega) r hr) hlt)]; exact (hM a hlt).none r hr
theorem mex_bound {xs : List Nat} {n : Nat} {G : Nat → List Nat} (hG : ∀ a, a ≤ xs.length → ∀ r ∈ G a, r < a) (hM : ∀ a, a < xs.length → Mex (vX xs) G a) {r : Nat} (hr : r ∈ G xs.length) (e : vX xs r = n) : n < xs.length := by
  have h1 := hG _ (Nat.le_refl _) r hr
  have h2 := mex_le (n := xs.length) (fun a ha => hG a (Nat.le_of_lt ha)) hM r h1
  omega
abbrev alB : List Stmt := defBody aloneD
abbrev alF : List Stmt := forBody (stAt alB 1)
abbrev alScope : Scope := defScope aloneD
abbrev envN (L : Addr) (cd : Value) : Env := envA (Str.ofString "_law_alone") alScope.names alScope.more L 63 cd
theorem k_alone (w : World) : keepIn (hd.heap_39 w.params) (.ref 63) = true := by kernel_rfl
section
variable {w : World} {A : Around} {L : Addr} {cd : Value} {G : Nat → List Nat} {D : Addr} {vs us : List Value} {xs : List Nat} {m : Str → Option Value} {s : Shared} {W : Addr}
theorem ev_ans {h : Heap} {c : Addr} (hh : A.handled = none) (hc : h.IsCell (L + 1) (some (.ref D))) (hm : h.Ns L m) (hw : m (Str.ofString "moves") = some (.ref W)) (hW : LST h W us) (iW : IntsAre us (zOf (G xs.length))) (hl : (G xs.length).length ≤ 6) (hG : ∀ r ∈ G xs.length, r < xs.length)
    (hD : LST h D vs) (iD : IntsAre vs (zOf xs)) (hx : xs.length ≤ 1000) {i1 i2 i3 i4 i5 i6 : Pos} {sc : Scope} (e : sc = (match whTest (stAt alF 1) with | .Compare _ _ [.ListComp _ _ sc _] _ => sc | _ => default)) :
    Ev PR w A (envN L cd) (.ListComp (.Subscript (.Name (Str.ofString "answer") i1) (.Name (Str.ofString "q") i2) i3) [⟨.Name (Str.ofString "q") i4, .Name (Str.ofString "moves") i5, [], 0⟩] sc i6) h (HasI ((G xs.length).map fun r => ((vX xs r : Nat) : Int))) := by
  subst e
  refine newI_has (H := h) (ev_lcI (l := W) (vs := us) (rs := G xs.length) (fun r => ((vX xs r : Nat) : Int)) rfl hW iW (by omega) (ev_loc hm hw rfl rfl (by decide)) ?_ hh (by decide) rfl (by decide) rfl (fun _ => rfl))
  intro C r t H m' k hr hn hq
  have hr' := hG r hr
  obtain ⟨u, hu⟩ := ints_get iD r ((vX xs r : Nat) : Int) (by simp [vX, List.getD, hr'])
  refine (ev_sub (l := D) (k := r) (vs := vs) (ev_cell (hc.keeps k) rfl rfl rfl (by decide)) ?_ (hD.ext k) (by omega) (by omega) hu).mono fun y _ _ e => ⟨_, e⟩
  exact (ev_loc hn hq rfl rfl (by decide)).mono fun y _ _ e => ⟨_, e⟩
end
end Mine
namespace Mine
section
variable {w : World} {A : Around} {L : Addr} {cd : Value} {G : Nat → List Nat} {D : Addr} {vs us : List Value} {xs : List Nat} {m : Str → Option Value} {s : Shared} {W : Addr}
/-- the while: n goes up to the least number that is not among the answers -/
theorem al_while {t₀ : Tok} (hh : A.handled = none) (hc : s.heap.IsCell (L + 1) (some (.ref D))) (hm : s.heap.Ns L m) (hw : m (Str.ofString "moves") = some (.ref W)) (hn : m (Str.ofString "n") = some (.int 0 t₀)) (hW : LST s.heap W us) (iW : IntsAre us (zOf (G xs.length))) (hl : (G xs.length).length ≤ 6) (hG : ∀ a, a ≤ xs.length → ∀ r ∈ G a, r < a)
    (hD : LST s.heap D vs) (iD : IntsAre vs (zOf xs)) (hx : xs.length ≤ 1000) (hM : ∀ a, a < xs.length → Mex (vX xs) G a) {Q : Flow → Shared → Prop}
    (hQ : ∀ h' tk n t m', Step L s.heap h' → h'.Ns L m' → m' (Str.ofString "n") = some (.int (n : Nat) t) → (∀ v, v < n → ∃ r ∈ G xs.length, vX xs r = v) → (∀ r ∈ G xs.length, vX xs r ≠ n) → Q .next { s with heap := h', toks := tk }) :
    wpAny (model PR w) A (exec (stAt alF 1) (envN L cd)) Q NoE s := by
  have nL : L + 1 ≠ L := Nat.succ_ne_self L
  have nW : W ≠ L := ne_ns hW hm
  have nD : D ≠ L := ne_ns hD hm
  refine wpAny_While (codeAny_whileLoop (fun k s' => ∃ n h tk t m', k = xs.length - n ∧ n ≤ xs.length ∧ Step L s.heap h ∧ h.Ns L m' ∧ m' (Str.ofString "n") = some (.int (n : Nat) t) ∧ m' (Str.ofString "moves") = some (.ref W) ∧ (∀ v, v < n → ∃ r ∈ G xs.length, vX xs r = v) ∧ s' = { s with heap := h, toks := tk }) ?_ xs.length ⟨0, s.heap, s.toks, t₀, m, rfl, Nat.zero_le _, fun _ _ _ e => e, hm, hn, hw, fun v hv => absurd hv (Nat.not_lt_zero _), rfl⟩)
  rintro k s' ⟨n, h, tk, t, m', rfl, hle, st, hm', hn', hw', hv, rfl⟩
  have hc' : h.IsCell (L + 1) (some (.ref D)) := by obtain ⟨o, e, q⟩ := hc; exact ⟨o, st _ _ nL e, q⟩
  have hW' := hW.stepN st nW
  have hD' := hD.stepN st nD
  have key : EvT PR w A (envN L cd) (whTest (stAt alF 1)) h (((G xs.length).map fun r => ((vX xs r : Nat) : Int)).any (· == (n : Int))) :=
    evT_cmp ((ev_loc hm' hn' rfl rfl (by decide)).mono fun y _ _ e => ⟨_, e⟩) (ev_ans (c := D) hh hc' hm' hw' hW' iW hl (hG _ (Nat.le_refl _)) hD' iD hx rfl) (mI _) cmp_in rfl
  refine wpAny_mono (key { s with heap := h, toks := tk } (fun b s2 => b = _ ∧ Keeps _ s2) NoE (Ext.refl _) fun s2 k2 => ⟨rfl, k2⟩) (fun b s2 hb => ?_) fun _ _ f => f.elim
  obtain ⟨rfl, k2⟩ := hb
  obtain ⟨h2, tk2, rfl, e2⟩ := k2
  by_cases q : (((G xs.length).map fun r => ((vX xs r : Nat) : Int)).any (· == (n : Int))) = true
  · rw [if_pos q]
    obtain ⟨z, hz, e⟩ := List.any_eq_true.mp q
    obtain ⟨r, hr, rfl⟩ := List.mem_map.mp hz
    have e' : vX xs r = n := by have := eq_of_beq e; omega
    have hlt := mex_bound hG hM hr e'
    refine wpAny_execs_cons (ex_asg (x := Str.ofString "n") (m := m') (P := IsI ((n : Int) + 1)) (ev_add ((ev_loc (hm'.at' fun o q => e2 _ o q) hn' rfl rfl (by decide)).mono fun y _ _ e => ⟨_, e⟩) ev_int) (hm'.at' fun o q => e2 _ o q) ?_ rfl rfl rfl)
    rintro y h3 h4 tk4 ⟨u, rfl⟩ k3 hn4 sb
    refine wpAny_execs_nil ⟨xs.length - (n + 1), by omega, n + 1, h4, tk4, u, _, rfl, hlt, fun b o hb e => sb.extBut b o hb (k3 b o (e2 b o (st b o hb e))), hn4, by rw [if_pos rfl]; rfl, hw', fun v h1 => ?_, rfl⟩
    by_cases hvn : v = n
    · exact ⟨r, hr, by rw [hvn]; exact e'⟩
    · exact hv v (by omega)
  · rw [if_neg q]
    refine wpAny_execs_nil (hQ h2 tk2 n t m' (fun b o hb e => e2 b o (st b o hb e)) (hm'.at' fun o q => e2 _ o q) hn' hv fun r hr e => q ?_)
    exact List.any_eq_true.mpr ⟨_, List.mem_map.mpr ⟨r, hr, rfl⟩, by rw [e]; exact beq_self_eq_true _⟩

theorem al_for {gA : Addr} {Wf : Nat → Addr} {sz : Nat} (hh : A.handled = none) (hc : s.heap.IsCell (L + 1) (some (.ref D))) (hm : s.heap.Ns L m) (hg : m (Str.ofString "game") = some (.ref gA)) (lg : LST s.heap gA (refs sz Wf)) (lw : ∀ p, p < sz → ∃ us, LST s.heap (Wf p) us ∧ IntsAre us (zOf (G p)))
    (hlen : ∀ p, p < sz → (G p).length ≤ 6) (hG : ∀ a, a < sz → ∀ r ∈ G a, r < a) (hD : LST s.heap D []) (nD : D ≠ gA) (nDw : ∀ p, p < sz → D ≠ Wf p) (hsz : sz ≤ 6) {Q : Flow → Shared → Prop}
    (hQ : ∀ h' tk xs vs m', (∀ b o, b ≠ L → b ≠ D → s.heap.get? b = some o → h'.get? b = some o) → h'.Ns L m' → LST h' D vs → IntsAre vs (zOf xs) → xs.length = sz → (∀ a, a < sz → Mex (vX xs) G a) → Q .next { s with heap := h', toks := tk }) :
    wpAny (model PR w) A (exec (stAt alB 1) (envN L cd)) Q NoE s := by
  have nL : L + 1 ≠ L := Nat.succ_ne_self L
  have nLc : L + 1 ≠ D := (ne_cell hD hc).symm
  have nLD : L ≠ D := (ne_ns hD hm).symm
  have lL : ∃ o, s.heap.get? L = some o := by obtain ⟨o, _, _, e, _⟩ := hm; exact ⟨o, e⟩
  have lenr : (refs sz Wf).length = sz := by simp [refs]
  refine for_list (vs := refs sz Wf) (fun it i h => ∃ m' xs vs, (∀ b o, b ≠ L → b ≠ D → s.heap.get? b = some o → h.get? b = some o) ∧ h.Ns L m' ∧ LST h D vs ∧ IntsAre vs (zOf xs) ∧ xs.length = i ∧ (∀ a, a < i → Mex (vX xs) G a)) hh
    (ev_loc hm hg rfl rfl (by decide)) lg (fun _ => rfl) ?_ ?_ ?_ ?_ ?_ (fun _ _ => rfl)
  · intro it h' e _
    exact ⟨m, [], [], fun b o _ _ q => e b o q, hm.at' fun o q => e _ o q, hD.ext e, .nil, rfl, fun a ha => absurd ha (Nat.not_lt_zero _)⟩
  · rintro it i h h' hA ⟨m', xs, vs, k, hm', hD', iD, hx, hM⟩ st
    obtain ⟨oL, eL⟩ := lL
    have n1 : L ≠ it := Nat.ne_of_lt (hA _ _ eL)
    have n2 : D ≠ it := Nat.ne_of_lt (let ⟨c, e⟩ := hD; hA _ _ e)
    exact ⟨m', xs, vs, fun b o h1 h2 q => st b o (Nat.ne_of_lt (hA _ _ q)) (k b o h1 h2 q), hm'.at' fun o q => st _ o n1 q, hD'.stepN st n2, iD, hx, hM⟩
  · rintro it i h ⟨m', xs, vs, k, hm', hD', iD, hx, hM⟩
    obtain ⟨c, e⟩ := lg
    exact ⟨c, k _ _ (ne_ns ⟨c, e⟩ hm) nD.symm e⟩
  · rintro it i v h' tk Q' hv hA ⟨m', xs, vs, k, hm', hD', iD, hx, hM⟩ ⟨oi, hoi⟩ hq
    have hi : i < sz := by
      rcases Nat.lt_or_ge i sz with h | h
      · exact h
      · rw [List.getElem?_eq_none (by rw [lenr]; exact h)] at hv; cases hv
    rw [refs_get hi] at hv; cases hv
    subst hx
    obtain ⟨oL, eL⟩ := lL
    have n1 : it ≠ L := Nat.ne_of_gt (hA _ _ eL)
    have n2 : it ≠ D := Nat.ne_of_gt (let ⟨c, e⟩ := hD; hA _ _ e)
    have hc' : h'.IsCell (L + 1) (some (.ref D)) := by obtain ⟨o, e, q⟩ := hc; exact ⟨o, k _ _ nL nLc e, q⟩
    obtain ⟨us, ⟨cw, ew⟩, iw⟩ := lw xs.length hi
    have hW' : LST h' (Wf xs.length) us := ⟨cw, k _ _ (ne_ns ⟨cw, ew⟩ hm) (nDw _ hi).symm ew⟩
    refine wpAny_assign_Name (wpAny_storeName_local rfl hm' (fun h2 hm2 s2 => ?_) rfl)
    have st2 : Step L h' h2 := s2.extBut
    have hc2 : h2.IsCell (L + 1) (some (.ref D)) := by obtain ⟨o, e, q⟩ := hc'; exact ⟨o, st2 _ _ nL e, q⟩
    have hW2 := hW'.stepN st2 (ne_ns hW' hm')
    have hD2 := hD'.stepN st2 nLD.symm
    have hmv : (fun y => if y = Str.ofString "moves" then some (Value.ref (Wf xs.length)) else m' y) (Str.ofString "moves") = some (.ref (Wf xs.length)) := rfl
    generalize (fun y => if y = Str.ofString "moves" then some (Value.ref (Wf xs.length)) else m' y) = m2 at *
    show wpAny _ _ (execs [stAt alF 0, stAt alF 1, stAt alF 2] _) _ _ _
    refine wpAny_execs_cons (ex_asg (x := Str.ofString "n") (m := m2) (P := IsI 0) ev_int hm2 ?_ rfl rfl rfl)
    rintro y h3 h4 tk4 ⟨u, rfl⟩ k3 hm4 sb
    dsimp only
    have st4 : Step L h2 h4 := step_of k3 sb
    have hc4 : h4.IsCell (L + 1) (some (.ref D)) := by obtain ⟨o, e, q⟩ := hc2; exact ⟨o, st4 _ _ nL e, q⟩
    have hW4 := hW2.stepN st4 (ne_ns hW2 hm2)
    have hD4 := hD2.stepN st4 nLD.symm
    have hn4 : (fun y => if y = Str.ofString "n" then some (Value.int 0 u) else m2 y) (Str.ofString "n") = some (.int 0 u) := rfl
    have hv4 : (fun y => if y = Str.ofString "n" then some (Value.int 0 u) else m2 y) (Str.ofString "moves") = some (.ref (Wf xs.length)) := hmv
    generalize (fun y => if y = Str.ofString "n" then some (Value.int 0 u) else m2 y) = m4 at *
    have hG' : ∀ a, a ≤ xs.length → ∀ r ∈ G a, r < a := fun a ha => hG a (Nat.lt_of_le_of_lt ha hi)
    refine wpAny_execs_cons (al_while (xs := xs) hh hc4 hm4 hv4 hn4 hW4 iw (hlen _ hi) hG' hD4 iD (by omega) hM ?_)
    intro h5 tk5 n t5 m5 st5 hm5 hn5 q1 q2
    dsimp only
    have hc5 : h5.IsCell (L + 1) (some (.ref D)) := by obtain ⟨o, e, q⟩ := hc4; exact ⟨o, st5 _ _ nL e, q⟩
    have hD5 := LST.stepN hD4 st5 nLD.symm
    refine wpAny_execs_cons (ex_append (l := D) (P := fun y _ => y = .int (n : Nat) t5) (ev_cell hc5 rfl rfl rfl (by decide)) (ev_loc hm5 hn5 rfl rfl (by decide)) hD5 (by have := iD.length; rw [List.length_map] at this; omega) ?_ rfl rfl rfl rfl)
    rintro y h6 h7 tk7 rfl k6 hD7 sb7
    dsimp only
    have st7 : Step D h5 h7 := step_of k6 sb7
    refine wpAny_execs_nil (hq h7 tk7 ⟨m5, xs ++ [n], _, fun b o h1 h2 q => st7 b o h2 (st5 b o h1 (st4 b o h1 (st2 b o h1 (k b o h1 h2 q)))), hm5.at' fun o q => st7 _ o nLD q, hD7, ?_, by simp, mex_app hG' hM q1 q2⟩ fun o q => st7 _ o n2 (st5 _ o n1 (st4 _ o n1 (st2 _ o n1 q))))
    rw [zOf, List.map_append]
    exact iD.append (.cons _ t5 .nil)
  · rintro it h' tk _ ⟨m', xs, vs, k, hm', hD', iD, hx, hM⟩
    rw [lenr] at hx hM
    exact hQ h' tk xs vs m' k hm' hD' iD hx hM
end
end Mine
namespace Mine
section
variable {w : World} {L fa : Addr} {cd : Value} {G : Nat → List Nat} {s : Shared}
set_option maxHeartbeats 8000000 in
theorem alone_call {gA : Addr} {Wf : Nat → Addr} {sz : Nat} (hlim : s.heap.NoLimit) (lg : LST s.heap gA (refs sz Wf)) (lw : ∀ p, p < sz → ∃ us, LST s.heap (Wf p) us ∧ IntsAre us (zOf (G p)))
    (hlen : ∀ p, p < sz → (G p).length ≤ 6) (hG : ∀ a, a < sz → ∀ r ∈ G a, r < a) (hsz : sz ≤ 6) {Q : Value → Shared → Prop} {E : Value → Shared → Prop}
    (hQ : ∀ D X vs h' tk, Ext s.heap h' → Abv s.heap D → LST h' D vs → IntsAre vs (zOf ((List.range sz).map X)) → (∀ a, a < sz → Mex X G a) → Q (.ref D) { s with heap := h', toks := tk }) : (hd.heap_39 w.params).In s.heap →
    wpAny (model PySem.Challenge.rw_ik0170_01.row.prog w) (AL L fa cd) (call (.ref 63) [.ref gA]) Q E s := by
  k_fill
  intro KX
  w_on
  refine wpAny_call ?_
  refine' code_def0C (binds := [(Str.ofString "game", Value.ref gA)]) ?k1 ?k2 ?k6 ?k7 ?k8 ?k9 ?kB ?_ ?c2 ?c3 ?c4
  (case k1 => exact KX)
  (case k2 => exact hlim)
  (case k6 => k_is)
  (case k7 => k_is)
  (case k8 => k_room)
  (case k9 => rfl)
  (case c2 => exact rfl); (case c3 => exact rfl); (case c4 => exact rfl)
  case kB =>
    intro x hx
    cases List.mem_singleton.mp hx
    exact .inl rfl
  intro s₁ x
  obtain ⟨⟨⟨h1, tk1, rfl⟩, hns, hk1, _⟩, hcell, hap, hab⟩ := x
  have hc : h1.IsCell (s.heap.objs.size + 1) none := hcell (Str.ofString "answer") (s.heap.objs.size + 1) rfl
  have hg : (bindL (envN s.heap.objs.size (.ref 64)).kindOf [(Str.ofString "game", Value.ref gA)] fun _ => none) (Str.ofString "game") = some (.ref gA) := rfl
  replace hns : h1.Ns s.heap.objs.size (bindL (envN s.heap.objs.size (.ref 64)).kindOf [(Str.ofString "game", Value.ref gA)] fun _ => none) := hns
  generalize (bindL (envN s.heap.objs.size (.ref 64)).kindOf [(Str.ofString "game", Value.ref gA)] fun _ => none) = m1 at *
  dsimp only
  show wpAny _ _ (execs [stAt alB 0, stAt alB 1, stAt alB 2] (envN s.heap.objs.size _)) _ _ _
  have hA1 : Abv s.heap s.heap.objs.size := fun _ _ e => Heap.lt_size e
  have hA2 : Abv s.heap (s.heap.objs.size + 1) := fun _ _ e => Nat.lt_succ_of_lt (Heap.lt_size e)
  refine wpAny_execs_cons (ex_asgC (x := Str.ofString "answer") (c := s.heap.objs.size + 1) ev_list0 hc ?_ rfl rfl rfl rfl)
  rintro y h2 h3 tk3 ⟨D, rfl, aD, lD⟩ k2 hc3 sb3
  dsimp only
  have st3 : Step (s.heap.objs.size + 1) h1 h3 := step_of k2 sb3
  have kk : Ext s.heap h3 := fun b o e => st3 b o (Nat.ne_of_lt (hA2 _ _ e)) (hk1 b o e)
  have aD' : Abv s.heap D := fun b o e => aD b o (hk1 b o e)
  have cD : D ≠ s.heap.objs.size + 1 := Nat.ne_of_gt (let ⟨o, e, _⟩ := hc; aD _ _ e)
  have lD3 : LST h3 D [] := lD.stepN sb3.extBut cD
  have hns3 : h3.Ns s.heap.objs.size m1 := hns.at' fun o e => st3 _ o (Nat.ne_of_lt (Nat.lt_succ_self _)) e
  refine wpAny_execs_cons (al_for (G := G) rfl hc3 hns3 hg (lg.ext kk) (fun p hp => let ⟨us, a, b⟩ := lw p hp; ⟨us, a.ext kk, b⟩) hlen hG lD3 (Nat.ne_of_gt (let ⟨c, e⟩ := lg; aD' _ _ e)) (fun p hp => Nat.ne_of_gt (let ⟨_, ⟨c, e⟩, _⟩ := lw p hp; aD' _ _ e)) hsz ?_)
  intro h4 tk4 xs vs m4 k4 hm4 lD4 iD4 hx hM
  dsimp only
  have hc4 : h4.IsCell (s.heap.objs.size + 1) (some (.ref D)) := by obtain ⟨o, e, q⟩ := hc3; exact ⟨o, k4 _ _ (Nat.ne_of_gt (Nat.lt_succ_self _)) cD.symm e, q⟩
  refine wpAny_execs_cons (wpAny_Return_some (ev_cell hc4 rfl rfl rfl (by decide) _ _ _ (Ext.refl _) ?_))
  rintro y s' rfl k5
  obtain ⟨h5, tk5, rfl, e5⟩ := k5
  refine hQ D (vX xs) vs h5 tk5 (fun b o e => e5 b o (k4 b o (Nat.ne_of_lt (hA1 _ _ e)) (Nat.ne_of_lt (aD' _ _ e)) (kk b o e))) aD' (lD4.ext e5) ?_ hM
  rw [← hx, vX_all]; exact iD4
end
end Mine
namespace Mine
abbrev sB : List Stmt := forBody (stAt lawB 2)
abbrev pB : List Stmt := forBody (stAt sB 1)
abbrev Live (h : Heap) (x : Addr) : Prop := ∃ o, h.get? x = some o
/-- the ways of one game, none of whose lists H holds -/
structure Way (H h : Heap) (wy : Addr) (Wf : Nat → Addr) (G : Nat → List Nat) (n : Nat) : Prop where
  l : LST h wy (refs n Wf)
  lk : H.get? wy = none
  w : ∀ p, p < n → ∃ vs, LST h (Wf p) vs ∧ IntsAre vs (zOf (G p))
  wk : ∀ p, p < n → H.get? (Wf p) = none
  g : ∀ p, p < n → ∀ r ∈ G p, r < p
  gl : ∀ p, p < n → (G p).length ≤ p
section
variable {H h h' : Heap} {wy : Addr} {Wf : Nat → Addr} {G : Nat → List Nat} {n : Nat}
theorem Way.keep (x : Way H h wy Wf G n) (k : ∀ b o, H.get? b = none → h.get? b = some o → h'.get? b = some o) : Way H h' wy Wf G n :=
  ⟨let ⟨c, e⟩ := x.l; ⟨c, k _ _ x.lk e⟩, x.lk, fun p hp => let ⟨vs, ⟨c, e⟩, i⟩ := x.w p hp; ⟨vs, ⟨c, k _ _ (x.wk p hp) e⟩, i⟩, x.wk, x.g, x.gl⟩
theorem ne_live {H : Heap} {a b : Addr} (h1 : H.get? a = none) (h2 : Live H b) : a ≠ b := by
  rintro rfl
  obtain ⟨o, e⟩ := h2
  rw [h1] at e; cases e
theorem Way.ext (x : Way H h wy Wf G n) (k : Ext h h') : Way H h' wy Wf G n := x.keep fun b o _ e => k b o e
theorem Way.step {c : Addr} (x : Way H h wy Wf G n) (s : Step c h h') (hc : Live H c) : Way H h' wy Wf G n := x.keep fun b o h1 e => s b o (ne_live h1 hc) e
theorem Way.stepN {c : Addr} (x : Way H h wy Wf G n) (s : Step c h h') (h1 : wy ≠ c) (h2 : ∀ p, p < n → Wf p ≠ c) : Way H h' wy Wf G n :=
  ⟨x.l.stepN s h1, x.lk, fun p hp => let ⟨vs, l, i⟩ := x.w p hp; ⟨vs, l.stepN s (h2 p hp), i⟩, x.wk, x.g, x.gl⟩
theorem none_of {H H2 : Heap} {x : Addr} (h1 : ∀ x, Live H x → Live H2 x) (h2 : H2.get? x = none) : H.get? x = none := by
  cases q : H.get? x with
  | none => rfl
  | some o => obtain ⟨o', e⟩ := h1 x ⟨o, q⟩; rw [h2] at e; cases e
theorem Way.down {H2 : Heap} (x : Way H2 h wy Wf G n) (k : ∀ x, Live H x → Live H2 x) : Way H h wy Wf G n :=
  ⟨x.l, none_of k x.lk, x.w, fun p hp => none_of k (x.wk p hp), x.g, x.gl⟩
theorem live_step {c : Addr} (s : Step c h h') (hc : Live h' c) : ∀ x, Live h x → Live h' x := fun x ⟨o, e⟩ => by
  by_cases q : x = c
  · rw [q]; exact hc
  · exact ⟨o, s x o q e⟩
end
def gtest (k : Int) (r : Int) : Bool := (k.fdiv ((2 : Int) ^ r.toNat)).fmod 2 == 1
def gline (k : Int) (p : Nat) : List Nat := (List.range p).filter fun r => gtest k (r : Int)
theorem gline_z (k : Int) (p : Nat) : ((rng p).filter (gtest k)).map id = zOf (gline k p) := by
  unfold rng gline zOf
  rw [List.map_id, List.filter_map]; rfl
theorem gline_lt {k : Int} {p : Nat} : ∀ r ∈ gline k p, r < p := fun r h => List.mem_range.mp (List.mem_filter.mp h).1
theorem gline_len (k : Int) (p : Nat) : (gline k p).length ≤ p := Nat.le_trans (List.length_filter_le _ _) (by rw [List.length_range]; exact Nat.le_refl _)
section
variable {w : World} {h₀ : Heap} {L : Nat} {fa : Addr} {cd : Value} {m cm : Str → Option Value} {sz : Nat} {s : Shared} {h h' : Heap}
  {mg mb : Str → Option Value} {mean : ExcName → Option Value} {S : Addr} {items : List Value} {ns : List Int}
theorem ints_at {vs : List Value} {ns : List Int} (x : IntsAre vs ns) (i : Nat) (hi : i < ns.length) : ∃ k t, vs[i]? = some (.int k t) := by
  obtain ⟨t, e⟩ := ints_get x i ns[i] (by simp [hi])
  exact ⟨_, t, e⟩
theorem ev_subL {prog : Program} {A : Around} {env : Env} {value slice : Expr} {pos : Pos} {l : Addr} {vs : List Value} {k : Int} {v : Value} (hv : Ev prog w A env value h (IsR l)) (hs : Ev prog w A env slice h (IsI k)) (hl : h.IsList l vs.toArray) (h0 : 0 ≤ k) (h1 : k < 2 ^ 63) (hx : vs[k.toNat]? = some v)
    (hsub : ∀ t, subscripted slice false (.ref l) (.int k t) = operate [.ref l, .int k t] (getItem (.ref l) (.int k t)) := by intro _; rfl) : Ev prog w A env (.Subscript value slice pos) h (fun y _ => y = v) := fun s Q E kk hQ => by
  refine Subscript_ (hv s _ _ kk fun y s1 hy k1 => ?_)
  subst hy
  refine hs s1 _ _ (kk.trans (kext k1)) fun y s2 hy k2 => ?_
  obtain ⟨t, rfl⟩ := hy
  have hl2 : s2.heap.IsList l vs.toArray := hl.at fun o e => ((kk.trans (kext k1)).trans (kext k2)) _ _ e
  exact tail_any hl2.typeIs slot_list_getitem.lookup (wpAny_getItem_list hl2 h0 h1 (by simpa using hx) (hQ _ _ rfl (kthen k1 k2))) (hsub t)
abbrev cNum (L : Nat) : Addr := L + 1
theorem c_number (L : Addr) : (cellsL L).lookup (Str.ofString "number") = some (cNum L) := by rfl
theorem st_spot {p side : Nat} {tp ts : Tok} {Q : Flow → Shared → Prop} (z : LS h₀ L s.heap m cm) (hp : m (Str.ofString "p") = some (.int p tp)) (hs : m (Str.ofString "side") = some (.int side ts)) (hp1 : 1 ≤ p)
    (hp6 : p ≤ 6) (hQ : ∀ t h2 tk, Step L s.heap h2 → LS h₀ L h2 (fun y => if y = Str.ofString "spot" then some (.int ((2 * p - 2 + side : Nat) : Int) t) else m y) cm → Q .next { s with heap := h2, toks := tk }) :
    wpAny (model PR w) (AL L fa cd) (exec (stAt pB 0) (envL L fa cd)) Q NoE s := by
  have e : ((2 * p - 2 + side : Nat) : Int) = (2 : Int) * (p : Int) - 2 + (side : Int) := by omega
  refine ex_asg (x := Str.ofString "spot") (m := m) (P := IsI ((2 * p - 2 + side : Nat) : Int)) ?_ z.fr.ns ?_ rfl rfl rfl
  · rw [e]
    exact ev_add (ev_sub_int (ev_mul ev_int ((ev_loc z.fr.ns hp rfl rfl (by decide)).mono fun y _ _ e => ⟨_, e⟩) (by mul_fits)) ev_int) ((ev_loc z.fr.ns hs rfl rfl (by decide)).mono fun y _ _ e => ⟨_, e⟩)
  · rintro y h1 h2 tk ⟨t, rfl⟩ k1 hn sb
    exact hQ t h2 tk (step_of k1 sb) (z.loc (step_of k1 sb) hn)
theorem st_number {p side : Nat} {spot : Nat} {tp ts tt : Tok} {Q : Flow → Shared → Prop} (V : Env0 w h₀ mg mb mean) (hS : h₀.IsList S items.toArray) (hI : IntsAre items ns) (hlen : ns.length ≤ 63)
    (z : LS h₀ L s.heap m cm) (hp : m (Str.ofString "p") = some (.int p tp)) (hs : m (Str.ofString "side") = some (.int side ts)) (ht : m (Str.ofString "spot") = some (.int spot tt)) (hsc : m (Str.ofString "script") = some (.ref S)) (hp1 : 1 ≤ p)
    (hp6 : p ≤ 6) (hQ : ∀ k t h2 tk, Step (cNum L) s.heap h2 → LS h₀ L h2 m (fun y => if y = Str.ofString "number" then some (.int k t) else cm y) → Q .next { s with heap := h2, toks := tk }) :
    wpAny (model PR w) (AL L fa cd) (exec (stAt pB 1) (envL L fa cd)) Q NoE s := by
  have hS' : s.heap.IsList S items.toArray := hS.at fun o e => z.fr.keep _ _ e
  have il := hI.length
  have evP : ∀ {pos}, Ev PR w (AL L fa cd) (envL L fa cd) (.Name (Str.ofString "p") pos) s.heap (IsI p) := (ev_loc z.fr.ns hp rfl rfl (by decide)).mono fun y _ _ e => ⟨_, e⟩
  have evT : ∀ {pos}, Ev PR w (AL L fa cd) (envL L fa cd) (.Name (Str.ofString "spot") pos) s.heap (IsI spot) := (ev_loc z.fr.ns ht rfl rfl (by decide)).mono fun y _ _ e => ⟨_, e⟩
  have evS : ∀ {pos}, Ev PR w (AL L fa cd) (envL L fa cd) (.Name (Str.ofString "script") pos) s.heap (IsR S) := ev_loc z.fr.ns hsc rfl rfl (by decide)
  refine ex_asgC (x := Str.ofString "number") (c := cNum L) (P := fun y _ => ∃ k t, y = .int k t) ?_ (z.cl.cell _ _ (c_number L)) ?_ rfl rfl rfl rfl
  · refine ev_ifexp (c := decide ((spot : Int) < (ns.length : Nat))) (evT_cmp evT (ev_len (l := S) (n := ns.length) (evLen V.T V.KX z.fr) (evS.mono fun y h' k e => ⟨e, items, hS'.at fun o q => k _ o q, il⟩) (by omega) rfl) (mI _) cmp_lt rfl) (fun q => ?_) (fun q => ?_)
    · have q' := of_decide_eq_true q
      obtain ⟨k, t, e⟩ := ints_at hI spot (by omega)
      exact (ev_subL (l := S) (k := spot) evS evT hS' (by omega) (by omega) e).mono fun y _ _ e => ⟨k, t, e⟩
    · refine ev_ifexp (evT_cmp ((ev_loc z.fr.ns hs rfl rfl (by decide)).mono fun y _ _ e => ⟨_, e⟩) ev_int (mI _) cmp_eq rfl) (fun _ => ?_) (fun _ => ?_)
      · exact (ev_sub_int (ev_pow ev_int evP (by omega) (by omega) (by decide)) ev_int).mono fun y _ _ ⟨t, e⟩ => ⟨_, t, e⟩
      · exact (ev_pow ev_int (ev_sub_int evP ev_int) (by omega) (by omega) (by decide)).mono fun y _ _ ⟨t, e⟩ => ⟨_, t, e⟩
  · rintro y h1 h2 tk ⟨k, t, rfl⟩ k1 hc sb
    exact hQ k t h2 tk (step_of k1 sb) (z.cel (step_of k1 sb) (c_number L) hc)
theorem pylong (V : Env0 w h₀ mg mb mean) (F : Fr h₀ L h m) : ∀ s : Shared, Ext h s.heap → PylongRoom (model PR w) (AL L fa cd) s := fun s k => by
  have T := V.T
  have K0 := V.K0
  have F' : Fr h₀ L s.heap m := F.keeps k
  exact PylongRoom.of (T.nolimit.keeps F'.keep) (of_decide_eq_true (by with_unfolding_all rfl))
theorem st_way {p : Nat} {tp t : Tok} {k : Int} {wy : Addr} {vs : List Value} {Q : Flow → Shared → Prop} (V : Env0 w h₀ mg mb mean) (z : LS h₀ L s.heap m cm) (hp : m (Str.ofString "p") = some (.int p tp)) (hw : m (Str.ofString "ways") = some (.ref wy)) (hk : cm (Str.ofString "number") = some (.int k t)) (lw : LST s.heap wy vs) (hv : vs.length ≤ 6) (hp6 : p ≤ 6)
    (hQ : ∀ D us h2 tk, Step wy s.heap h2 → s.heap.get? D = none → LST h2 wy (vs ++ [.ref D]) → LST h2 D us → IntsAre us (zOf (gline k p)) → Q .next { s with heap := h2, toks := tk }) :
    wpAny (model PR w) (AL L fa cd) (exec (stAt pB 2) (envL L fa cd)) Q NoE s := by
  refine ex_append (l := wy) (P := NewI s.heap (((rng p).filter (gtest k)).map id)) (ev_loc z.fr.ns hw rfl rfl (by decide)) (ev_lcR (n := p) (gtest k) id rfl rfl (by decide) rfl (by decide) rfl ((ev_range1 (evRange V.T V.KX z.fr) ((ev_loc z.fr.ns hp rfl rfl (by decide)).mono fun y _ _ e => ⟨_, e⟩) rfl).mono fun y h' k ⟨r, t, u, v, e, _, g⟩ => ⟨r, t, u, v, e, g⟩) (by omega) ?_ ?_ (fun _ => rfl)) lw (by omega) ?_ rfl rfl rfl rfl
  · intro C r u H m' kH hr hn hx
    have z' := z.ext kH
    refine evT_cmp (ev_mod (ev_div (a := k) ?e1 (ev_pow ev_int ?e2 (by omega) (by omega) (by decide)) (by simpa using Int.pow_ne_zero (by decide)) (pylong V z'.fr)) ev_int (by decide)) ev_int (mI _) cmp_eq rfl
    case e1 => exact (ev_cell (z'.cellv (c_number L) hk) rfl rfl rfl (by decide)).mono fun y _ _ e => ⟨_, e⟩
    case e2 => exact (ev_loc hn hx rfl rfl (by decide)).mono fun y _ _ e => ⟨_, e⟩
  · intro C r u H m' kH hr _ hn hx
    exact (ev_loc hn hx rfl rfl (by decide)).mono fun y _ _ e => ⟨_, e⟩
  · rintro y h1 h2 tk ⟨D, us, rfl, hD, lD, iD⟩ k1 hl sb
    rw [gline_z] at iD
    exact hQ D us h2 tk (step_of k1 sb) hD hl (lD.stepN sb.extBut (ne_live hD (let ⟨c, e⟩ := lw; ⟨_, e⟩))) iD
end
end Mine
namespace Mine
def fput {α : Type} (f : Nat → α) (n : Nat) (v : α) : Nat → α := fun q => if q = n then v else f q
theorem fput_eq {α : Type} {f : Nat → α} {n : Nat} {v : α} : fput f n v n = v := if_pos rfl
theorem fput_ne {α : Type} {f : Nat → α} {n q : Nat} {v : α} (h : q ≠ n) : fput f n v q = f q := if_neg h
theorem refs_put (n : Nat) (f : Nat → Addr) (D : Addr) : refs (n + 1) (fput f n D) = refs n f ++ [.ref D] := by
  rw [refs_succ, fput_eq, refs_congr (g := f) fun i hi => fput_ne (Nat.ne_of_lt hi)]
theorem Way.put {H h h' : Heap} {wy D : Addr} {Wf : Nat → Addr} {G : Nat → List Nat} {n : Nat} {us : List Value} {g : List Nat} (x : Way H h wy Wf G n) (s : Step wy h h') (hne : ∀ p, p < n → Wf p ≠ wy) (hl : LST h' wy (refs n Wf ++ [.ref D])) (hD : LST h' D us) (iD : IntsAre us (zOf g)) (nD : H.get? D = none) (g1 : ∀ r ∈ g, r < n) (g2 : g.length ≤ n) :
    Way H h' wy (fput Wf n D) (fput G n g) (n + 1) := by
  refine ⟨by rw [refs_put]; exact hl, x.lk, fun p hp => ?_, fun p hp => ?_, fun p hp => ?_, fun p hp => ?_⟩
  all_goals
    by_cases e : p = n
    · subst e
      first
      | (rw [fput_eq, fput_eq]; exact ⟨us, hD, iD⟩)
      | (rw [fput_eq]; assumption)
    · have hlt : p < n := by omega
      first
      | (rw [fput_ne e, fput_ne e]; obtain ⟨vs, l, i⟩ := x.w p hlt; exact ⟨vs, l.stepN s (hne p hlt), i⟩)
      | (rw [fput_ne e]; exact x.wk p hlt)
      | (rw [fput_ne e]; exact x.g p hlt)
      | (rw [fput_ne e]; exact x.gl p hlt)
section
variable {w : World} {h₀ : Heap} {L : Nat} {fa : Addr} {cd : Value} {m cm : Str → Option Value} {sz : Nat} {s : Shared} {h h' : Heap}
  {mg mb : Str → Option Value} {mean : ExcName → Option Value} {S : Addr} {items : List Value} {ns : List Int}
theorem for_p {H : Heap} {wy : Addr} {Wf : Nat → Addr} {G : Nat → List Nat} {side : Nat} {tz ts : Tok} (V : Env0 w h₀ mg mb mean) (hS : h₀.IsList S items.toArray) (hI : IntsAre items ns) (hlen : ns.length ≤ 63) (z : LS h₀ L s.heap m cm)
    (hH : ∀ x, Live H x → Live s.heap x) (HL : Live H L) (HC : Live H (cNum L)) (wy0 : Way H s.heap wy Wf G 1) (n0 : Wf 0 ≠ wy) (ow : NLt (L + 6) wy)
    (msz : m (Str.ofString "size") = some (.int sz tz)) (msd : m (Str.ofString "side") = some (.int side ts)) (msc : m (Str.ofString "script") = some (.ref S)) (mwy : m (Str.ofString "ways") = some (.ref wy)) (s1 : 1 ≤ sz) (s6 : sz ≤ 6) {Q : Flow → Shared → Prop}
    (hQ : ∀ h' tk m' cm' Wf' G', LS h₀ L h' m' cm' → Way H h' wy Wf' G' sz → (∀ y, y ≠ Str.ofString "p" → y ≠ Str.ofString "spot" → m' y = m y) → (∀ x, Live H x → Live h' x) → (∀ x o, x ≠ L → x ≠ cNum L → x ≠ wy → s.heap.get? x = some o → h'.get? x = some o) → Q .next { s with heap := h', toks := tk }) :
    wpAny (model PR w) (AL L fa cd) (exec (stAt sB 1) (envL L fa cd)) Q NoE s := by
  refine for_range (a := 1) (b := sz) (fun it p h => ∃ m' cm' Wf' G', LS h₀ L h m' cm' ∧ Way H h wy Wf' G' p ∧ (∀ q, q < p → Wf' q ≠ wy ∧ Wf' q ≠ it) ∧ (∀ y, y ≠ Str.ofString "p" → y ≠ Str.ofString "spot" → m' y = m y) ∧ (∀ x, Live H x → Live h x) ∧
    (∀ x o, x ≠ L → x ≠ cNum L → x ≠ wy → s.heap.get? x = some o → h.get? x = some o)) rfl
    (ev_range2 (evRange V.T V.KX z.fr) ev_int ((ev_loc z.fr.ns msz rfl rfl (by decide)).mono fun y _ _ e => ⟨_, e⟩) rfl rfl) s1 (by omega) (fun _ => rfl) ?_ ?_ ?_ ?_ (fun _ _ => rfl)
  · intro it h' e hA
    refine ⟨m, cm, Wf, G, z.ext e, wy0.ext e, fun q hq => ?_, fun _ _ _ => rfl, fun x l => let ⟨o, q⟩ := hH x l; ⟨o, e _ _ q⟩, fun x o _ _ _ q => e x o q⟩
    have : q = 0 := by omega
    subst this
    exact ⟨n0, Nat.ne_of_lt (let ⟨_, ⟨c, q⟩, _⟩ := wy0.w 0 (by omega); hA _ _ q)⟩
  · rintro it p h h' hA ⟨m', cm', Wf', G', z', y', n', l', v', k'⟩ st
    have n1 : NLt (L + 6) it := let ⟨o, e⟩ := z.liveC (c_told L); hA _ _ e
    have n2 : wy ≠ it := Nat.ne_of_lt (let ⟨c, e⟩ := wy0.l; hA _ _ e)
    refine ⟨m', cm', Wf', G', z'.step st n1, y'.stepN st n2 fun q hq => (n' q hq).2, n', l', fun x lx => ?_, fun x o h1 h2 h3 q => st x o (Nat.ne_of_lt (hA _ _ q)) (k' x o h1 h2 h3 q)⟩
    obtain ⟨o, e⟩ := v' x lx
    obtain ⟨o', e'⟩ := hH x lx
    exact ⟨o, st x o (Nat.ne_of_lt (hA _ _ e')) e⟩
  · rintro it p t h' tk Q' hp1 hp hA ⟨m', cm', Wf', G', z', y', n', l', v', k'⟩ ⟨oi, hoi⟩ hq
    have n1 : NLt (L + 6) it := let ⟨o, e⟩ := z.liveC (c_told L); hA _ _ e
    have n2 : wy ≠ it := Nat.ne_of_lt (let ⟨c, e⟩ := wy0.l; hA _ _ e)
    have nL : it ≠ L := Nat.ne_of_gt (by dsimp only [NLt] at *; omega)
    have nC : it ≠ cNum L := Nat.ne_of_gt (Nat.lt_of_le_of_lt (show L + 1 ≤ L + 6 by omega) n1)
    refine wpAny_assign_Name (wpAny_storeName_local rfl z'.fr.ns (fun h2 hm2 s2 => ?_) rfl)
    have st2 : Step L h' h2 := s2.extBut
    have z2 := z'.loc st2 hm2
    have y2 := y'.step st2 HL
    have v2 := fun x lx => live_step st2 z2.live x (v' x lx)
    have l2 : ∀ y, y ≠ Str.ofString "p" → y ≠ Str.ofString "spot" → (fun y => if y = Str.ofString "p" then some (Value.int p t) else m' y) y = m y := fun y h1 h2 => by
      show (if y = Str.ofString "p" then some (Value.int p t) else m' y) = m y
      rw [if_neg h1]; exact l' y h1 h2
    have mp2 : (fun y => if y = Str.ofString "p" then some (Value.int p t) else m' y) (Str.ofString "p") = some (.int p t) := rfl
    generalize (fun y => if y = Str.ofString "p" then some (Value.int p t) else m' y) = m2 at *
    show wpAny _ _ (execs [stAt pB 0, stAt pB 1, stAt pB 2] _) _ _ _
    refine wpAny_execs_cons (st_spot z2 mp2 ((l2 _ (by decide) (by decide)).trans msd) hp1 (by omega) ?_)
    intro t4 h4 tk4 st4 z4
    dsimp only
    have y4 := y2.step st4 HL
    have v4 := fun x lx => live_step st4 z4.live x (v2 x lx)
    have l4 : ∀ y, y ≠ Str.ofString "p" → y ≠ Str.ofString "spot" → (fun y => if y = Str.ofString "spot" then some (Value.int ((2 * p - 2 + side : Nat) : Int) t4) else m2 y) y = m y := fun y h1 h2 => by
      show (if y = Str.ofString "spot" then some (Value.int ((2 * p - 2 + side : Nat) : Int) t4) else m2 y) = m y
      rw [if_neg h2]; exact l2 y h1 h2
    have mp4 : (fun y => if y = Str.ofString "spot" then some (Value.int ((2 * p - 2 + side : Nat) : Int) t4) else m2 y) (Str.ofString "p") = some (.int p t) := mp2
    have mt4 : (fun y => if y = Str.ofString "spot" then some (Value.int ((2 * p - 2 + side : Nat) : Int) t4) else m2 y) (Str.ofString "spot") = some (.int ((2 * p - 2 + side : Nat) : Int) t4) := rfl
    generalize (fun y => if y = Str.ofString "spot" then some (Value.int ((2 * p - 2 + side : Nat) : Int) t4) else m2 y) = m4 at *
    refine wpAny_execs_cons (st_number V hS hI hlen z4 mp4 ((l4 _ (by decide) (by decide)).trans msd) mt4 ((l4 _ (by decide) (by decide)).trans msc) hp1 (by omega) ?_)
    intro k t6 h6 tk6 st6 z6
    dsimp only
    have y6 := y4.step st6 HC
    have v6 := fun x lx => live_step st6 (z6.liveC (c_number L)) x (v4 x lx)
    have mk6 : (fun y => if y = Str.ofString "number" then some (Value.int k t6) else cm' y) (Str.ofString "number") = some (.int k t6) := rfl
    refine wpAny_execs_cons (st_way V z6 mp4 ((l4 _ (by decide) (by decide)).trans mwy) mk6 y6.l (by simp [refs]; omega) (by omega) ?_)
    intro D us h8 tk8 st8 nD lw8 lD8 iD
    dsimp only
    have hoi6 : h6.get? it = some oi := st6 _ _ nC (st4 _ _ nL (st2 _ _ nL hoi))
    have nDi : D ≠ it := ne_live nD ⟨_, hoi6⟩
    have nDw : D ≠ wy := ne_live nD (let ⟨c, e⟩ := y6.l; ⟨_, e⟩)
    have nDH : H.get? D = none := none_of v6 nD
    refine wpAny_execs_nil (hq h8 tk8 ⟨m4, _, fput Wf' p D, fput G' p (gline k p), z6.step st8 ow, y6.put st8 (fun q hq => (n' q hq).1) lw8 lD8 iD nDH gline_lt (gline_len k p), fun q hq => ?_, l4, fun x lx => live_step st8 (let ⟨c, e⟩ := lw8; ⟨_, e⟩) x (v6 x lx), fun x o h1 h2 h3 q => st8 x o h3 (st6 x o h2 (st4 x o h1 (st2 x o h1 (k' x o h1 h2 h3 q))))⟩ fun o q => st8 _ o n2.symm (st6 _ o nC (st4 _ o nL (st2 _ o nL q))))
    by_cases e : q = p
    · rw [e, fput_eq]; exact ⟨nDw, nDi⟩
    · rw [fput_ne e]; exact n' q (by omega)
  · rintro it h' tk hA ⟨m', cm', Wf', G', z', y', n', l', v', k'⟩
    exact hQ h' tk m' cm' Wf' G' z' y' l' v' k'
end
end Mine
namespace Mine
section
variable {w : World} {h₀ : Heap} {L : Nat} {fa : Addr} {cd : Value} {m cm : Str → Option Value} {sz : Nat} {s : Shared} {h h' : Heap}
  {mg mb : Str → Option Value} {mean : ExcName → Option Value} {S : Addr} {items : List Value} {ns : List Int}
structure LocG (m : Str → Option Value) (sz : Nat) (gA S : Addr) : Prop where
  size : ∃ ts, m (Str.ofString "size") = some (.int sz ts)
  games : m (Str.ofString "games") = some (.ref gA)
  script : m (Str.ofString "script") = some (.ref S)
theorem lst_ne {h : Heap} {a b : Addr} {v : Value} (x : LST h a []) (y : LST h b [v]) : a ≠ b := by
  rintro rfl
  obtain ⟨c, e⟩ := x
  obtain ⟨c', e'⟩ := y
  rw [e] at e'
  injection e' with e'
  injection e' with _ _ e' _
  injection e' with e' _
  injection e' with e'
  cases e'
theorem abv_none {h : Heap} {D : Addr} (x : Abv h D) : h.get? D = none := by
  cases q : h.get? D with
  | none => rfl
  | some o => exact absurd (x _ _ q) (Nat.lt_irrefl _)
theorem for_side {gA : Addr} (V : Env0 w h₀ mg mb mean) (hS : h₀.IsList S items.toArray) (hI : IntsAre items ns) (hlen : ns.length ≤ 63) (z : LS h₀ L s.heap m cm) (lk : LocG m sz gA S) (lg : LST s.heap gA []) (og : NLt (L + 6) gA) (s1 : 1 ≤ sz) (s6 : sz ≤ 6) {Q : Flow → Shared → Prop}
    (hQ : ∀ h' tk m' cm' (gl : Nat → Addr) (WW : Nat → Nat → Addr) (GG : Nat → Nat → List Nat), LS h₀ L h' m' cm' → LST h' gA (refs 2 gl) → (∀ j, j < 2 → Way s.heap h' (gl j) (WW j) (GG j) sz) → LocG m' sz gA S → Q .next { s with heap := h', toks := tk }) :
    wpAny (model PR w) (AL L fa cd) (exec (stAt lawB 2) (envL L fa cd)) Q NoE s := by
  have lgA : Live s.heap gA := let ⟨c, e⟩ := lg; ⟨_, e⟩
  have lC := z.liveC (c_number L)
  refine for_range (a := 0) (b := 2) (fun it i h => ∃ (m' cm' : Str → Option Value) (gl : Nat → Addr) (WW : Nat → Nat → Addr) (GG : Nat → Nat → List Nat), LS h₀ L h m' cm' ∧ LST h gA (refs i gl) ∧ (∀ j, j < i → Way s.heap h (gl j) (WW j) (GG j) sz) ∧ (∀ j, j < i → gl j ≠ it ∧ ∀ p, p < sz → WW j p ≠ it) ∧ LocG m' sz gA S ∧ (∀ x, Live s.heap x → Live h x)) rfl
    (ev_range1 (evRange V.T V.KX z.fr) ev_int rfl) (Nat.zero_le _) (by omega) (fun _ => rfl) ?_ ?_ ?_ ?_ (fun _ _ => rfl)
  · intro it h' e hA
    exact ⟨m, cm, fun _ => 0, fun _ _ => 0, fun _ _ => [], z.ext e, lg.ext e, fun j hj => absurd hj (Nat.not_lt_zero _), fun j hj => absurd hj (Nat.not_lt_zero _), lk, fun x ⟨o, q⟩ => ⟨o, e _ _ q⟩⟩
  · rintro it i h h' hA ⟨m', cm', gl, WW, GG, z', lg', y', n', l', v'⟩ st
    have n1 : NLt (L + 6) it := let ⟨o, e⟩ := z.liveC (c_told L); hA _ _ e
    have n2 : gA ≠ it := Nat.ne_of_lt (let ⟨o, e⟩ := lgA; hA _ _ e)
    refine ⟨m', cm', gl, WW, GG, z'.step st n1, lg'.stepN st n2, fun j hj => (y' j hj).stepN st (n' j hj).1 (n' j hj).2, n', l', fun x lx => ?_⟩
    obtain ⟨o, e⟩ := v' x lx
    obtain ⟨o', e'⟩ := lx
    exact ⟨o, st x o (Nat.ne_of_lt (hA _ _ e')) e⟩
  · rintro it i t h' tk Q' _ hi hA ⟨m', cm', gl, WW, GG, z', lg', y', n', l', v'⟩ ⟨oi, hoi⟩ hq
    have n1 : NLt (L + 6) it := let ⟨o, e⟩ := z.liveC (c_told L); hA _ _ e
    have n2 : it ≠ gA := Nat.ne_of_gt (let ⟨o, e⟩ := lgA; hA _ _ e)
    have nL : it ≠ L := Nat.ne_of_gt (by dsimp only [NLt] at *; omega)
    have nC : it ≠ cNum L := Nat.ne_of_gt (Nat.lt_of_le_of_lt (show L + 1 ≤ L + 6 by omega) n1)
    have gL : gA ≠ L := Nat.ne_of_gt (by dsimp only [NLt] at *; omega)
    have gC : gA ≠ cNum L := Nat.ne_of_gt (Nat.lt_of_le_of_lt (show L + 1 ≤ L + 6 by omega) og)
    refine wpAny_assign_Name (wpAny_storeName_local rfl z'.fr.ns (fun h2 hm2 s2 => ?_) rfl)
    have st2 : Step L h' h2 := s2.extBut
    have z2 := z'.loc st2 hm2
    have v2 := fun x lx => live_step st2 z2.live x (v' x lx)
    have hoi2 := st2 _ _ nL hoi
    have lg2 := lg'.stepN st2 gL
    have l2 : LocG (fun y => if y = Str.ofString "side" then some (Value.int i t) else m' y) sz gA S := ⟨l'.size, l'.games, l'.script⟩
    have md2 : (fun y => if y = Str.ofString "side" then some (Value.int i t) else m' y) (Str.ofString "side") = some (.int i t) := rfl
    generalize (fun y => if y = Str.ofString "side" then some (Value.int i t) else m' y) = m2 at *
    show wpAny _ _ (execs [stAt sB 0, stAt sB 1, stAt sB 2] _) _ _ _
    refine wpAny_execs_cons (ex_asg (x := Str.ofString "ways") (m := m2) (ev_list1 (P := fun y h' => ∃ D, y = .ref D ∧ Abv h2 D ∧ LST h' D []) ev_list0 (fun y h1 h2 k ⟨D, a, b, c⟩ => ⟨D, a, b, c.ext k⟩) rfl) z2.fr.ns ?_ rfl rfl rfl)
    rintro y h3 h4 tk4 ⟨D, v, rfl, aD, lD, D0, rfl, aD0, lD0⟩ k3 hm4 sb4
    dsimp only
    replace aD : Abv h2 D := aD
    have st4 : Step L h2 h4 := step_of k3 sb4
    have z4 := z2.loc st4 hm4
    have liveL2 : Live h2 L := z2.live
    have nD := abv_none aD
    have nD0 := abv_none aD0
    have lD4 : LST h4 D [.ref D0] := lD.stepN sb4.extBut (ne_live nD liveL2)
    have lD04 : LST h4 D0 [] := lD0.stepN sb4.extBut (ne_live nD0 liveL2)
    have y4 : Way h2 h4 D (fun _ => D0) (fun _ => []) 1 := ⟨lD4, nD, fun p _ => ⟨[], lD04, .nil⟩, fun _ _ => nD0, fun _ _ r hr => (nomatch hr), fun _ _ => Nat.zero_le _⟩
    have oD : NLt (L + 6) D := let ⟨o, e⟩ := z2.liveC (c_told L); aD _ _ e
    have l4 : LocG (fun y => if y = Str.ofString "ways" then some (Value.ref D) else m2 y) sz gA S := ⟨l2.size, l2.games, l2.script⟩
    have md4 : (fun y => if y = Str.ofString "ways" then some (Value.ref D) else m2 y) (Str.ofString "side") = some (.int i t) := md2
    have mw4 : (fun y => if y = Str.ofString "ways" then some (Value.ref D) else m2 y) (Str.ofString "ways") = some (.ref D) := rfl
    generalize (fun y => if y = Str.ofString "ways" then some (Value.ref D) else m2 y) = m4 at *
    obtain ⟨tz, msz⟩ := l4.size
    refine wpAny_execs_cons (for_p (H := h2) V hS hI hlen z4 (fun x lx => live_step st4 z4.live x lx) liveL2 (z2.liveC (c_number L)) y4 (lst_ne lD04 lD4) oD msz md4 l4.script mw4 s1 s6 ?_)
    intro h6 tk6 m6 cm6 Wf6 G6 z6 y6 e6 v6 k6
    dsimp only
    have l6 : LocG m6 sz gA S := ⟨⟨tz, (e6 _ (by decide) (by decide)).trans msz⟩, (e6 _ (by decide) (by decide)).trans l4.games, (e6 _ (by decide) (by decide)).trans l4.script⟩
    have mw6 := (e6 (Str.ofString "ways") (by decide) (by decide)).trans mw4
    have liveG2 : Live h2 gA := let ⟨c, e⟩ := lg2; ⟨_, e⟩
    have gD : gA ≠ D := (ne_live nD liveG2).symm
    have lg6 : LST h6 gA (refs i gl) := by
      obtain ⟨c, e⟩ := lg2
      exact ⟨c, k6 _ _ gL gC gD (st4 _ _ gL e)⟩
    refine wpAny_execs_cons (ex_append (l := gA) (P := fun y _ => y = .ref D) (ev_loc z6.fr.ns l6.games rfl rfl (by decide)) (ev_loc z6.fr.ns mw6 rfl rfl (by decide)) lg6 (by simp [refs]; omega) ?_ rfl rfl rfl rfl)
    rintro y h7 h8 tk8 rfl k7 lg8 sb8
    dsimp only
    have st8 : Step gA h6 h8 := step_of k7 sb8
    have oldk : ∀ x o, s.heap.get? x = none → h'.get? x = some o → h8.get? x = some o := fun x o hx e => by
      have q1 := ne_live hx z.live
      have q2 := ne_live hx lC
      have q3 := ne_live hx lgA
      have e2 := st2 _ _ q1 e
      exact st8 _ _ q3 (k6 _ _ q1 q2 (ne_live nD ⟨_, e2⟩).symm (st4 _ _ q1 e2))
    have liveI : Live h2 it := ⟨_, hoi2⟩
    have yN : Way s.heap h8 D Wf6 G6 sz := (y6.step st8 liveG2).down v2
    refine wpAny_execs_nil (hq h8 tk8 ⟨m6, cm6, fput gl i D, fput WW i Wf6, fput GG i G6, z6.step st8 og, by rw [refs_put]; exact lg8, fun j hj => ?_, fun j hj => ?_, l6, fun x lx => live_step st8 (let ⟨c, e⟩ := lg8; ⟨_, e⟩) x (v6 x (v2 x lx))⟩ fun o q => st8 _ o n2 (k6 _ o nL nC (ne_live nD liveI).symm (st4 _ o nL (st2 _ o nL q))))
    · by_cases e : j = i
      · subst e; rw [fput_eq, fput_eq, fput_eq]; exact yN
      · rw [fput_ne e, fput_ne e, fput_ne e]; exact (y' j (by omega)).keep oldk
    · by_cases e : j = i
      · subst e; rw [fput_eq, fput_eq]; exact ⟨ne_live nD liveI, fun p hp => ne_live (y6.wk p hp) liveI⟩
      · rw [fput_ne e, fput_ne e]; exact n' j (by omega)
  · rintro it h' tk hA ⟨m', cm', gl, WW, GG, z', lg', y', n', l', v'⟩
    exact hQ h' tk m' cm' gl WW GG z' lg' y' l'
end
end Mine
namespace Mine
section
variable {w : World} {h₀ : Heap} {L : Nat} {fa : Addr} {cd : Value} {m cm : Str → Option Value} {sz : Nat} {s : Shared} {h h' : Heap}
  {mg mb : Str → Option Value} {mean : ExcName → Option Value} {S : Addr} {items : List Value} {ns : List Int}
abbrev IsA (h : Heap) (sz : Nat) (G : Nat → List Nat) : Value → Heap → Prop := fun y h' => ∃ D X vs, y = .ref D ∧ Abv h D ∧ LST h' D vs ∧ IntsAre vs (zOf ((List.range sz).map X)) ∧ ∀ a, a < sz → Mex X G a
theorem mA {h : Heap} {sz : Nat} {G : Nat → List Nat} : ∀ y h1 h2, Ext h1 h2 → IsA h sz G y h1 → IsA h sz G y h2 := fun _ _ _ k ⟨D, X, vs, a, b, c, d⟩ => ⟨D, X, vs, a, b, c.ext k, d⟩
theorem ev_alone {H : Heap} {gA : Addr} {gl : Nat → Addr} {j : Nat} {kj : Int} {Wf : Nat → Addr} {G : Nat → List Nat} {k : Nat} {p1 p2 p3 p4 p5 : Pos} (V : Env0 w h₀ mg mb mean) (z : LS h₀ L h m cm) (hg : m (Str.ofString "games") = some (.ref gA)) (lg : LST h gA (refs 2 gl)) (hj : j < 2) (ej : kj = (j : Int)) (y : Way H h (gl j) Wf G sz) (s6 : sz ≤ 6) :
    Ev PR w (AL L fa cd) (envL L fa cd) (.Call (.Name (Str.ofString "_law_alone") p1) [.Subscript (.Name (Str.ofString "games") p2) (.Constant (.int kj) k p3) p4] [] p5) h (IsA h sz G) := fun s Q E kk hQ => by
  subst ej
  refine wpAny_Call_ofName (evAlone V.T V.KX z.fr s _ _ kk fun f s1 hf k1 => ?_)
  subst hf
  refine callWith_K V.KX (k_alone w) ?_ rfl rfl
  show wpAny _ _ (spliced [(false, eval _ _)]) _ _ _
  have e1 := kk.trans (kext k1)
  have hsub : Ev PR w (AL L fa cd) (envL L fa cd) (.Subscript (.Name (Str.ofString "games") p2) (.Constant (.int (j : Int)) k p3) p4) h (fun y _ => y = .ref (gl j)) := ev_sub (l := gA) (k := (j : Int)) (ev_loc z.fr.ns hg rfl rfl (by decide)) ev_int lg (by omega) (by omega) (refs_get hj)
  refine Calls.spliced_cons (hsub s1 _ _ e1 fun v s2 hv k2 => Calls.spliced_nil ?_)
  subst hv
  have e2 := e1.trans (kext k2)
  have z2 := z.ext e2
  have y2 := y.ext e2
  have K2 := V.KX.keeps z2.fr.keep
  refine ⟨K2, ?_⟩
  refine alone_call (V.T.nolimit.keeps z2.fr.keep) y2.l y2.w (fun p hp => Nat.le_trans (y2.gl p hp) (by omega)) y2.g s6 ?_ K2
  intro D X vs h' tk x1 x2 x3 x4 x5
  exact hQ _ _ ⟨D, X, vs, rfl, x2.ext e2, x3, x4, x5⟩ (kthen (kthen k1 k2) (kof s2 x1))
theorem frame_live (z : LS h₀ L h m cm) : ∀ c, NIn (L + 6) c → Live h c := fun c hc => by
  obtain ⟨h1, h2⟩ := hc
  have : c = L ∨ c = L + 1 ∨ c = L + 1 + 1 ∨ c = L + 1 + 1 + 1 ∨ c = L + 1 + 1 + 1 + 1 ∨ c = L + 1 + 1 + 1 + 1 + 1 ∨ c = L + 1 + 1 + 1 + 1 + 1 + 1 := by omega
  rcases this with e | e | e | e | e | e | e
  · rw [e]; exact z.live
  · rw [e]; exact z.liveC (x := Str.ofString "number") rfl
  · rw [e]; exact z.liveC (x := Str.ofString "worths") rfl
  · rw [e]; exact z.liveC (x := Str.ofString "lost") rfl
  · rw [e]; exact z.liveC (x := Str.ofString "a") rfl
  · rw [e]; exact z.liveC (x := Str.ofString "b") rfl
  · rw [e]; exact z.liveC (x := Str.ofString "told") rfl
theorem LB.of {H : Heap} {a hi : Addr} {vs : List Value} (x : LST h a vs) (hH : ∀ c, NIn (L + 6) c → Live H c) (hn : H.get? a = none) (ha : Abv h hi) : LB (L + 6) hi h a vs :=
  ⟨x, fun c hc => ne_live hn (hH c hc), let ⟨_, e⟩ := x; ha _ _ e⟩
theorem law_of {G0 G1 : Nat → List Nat} {X Y : Nat → Nat} (hs : sz = 4 ∨ sz = 6) (g0 : ∀ a, a < sz → ∀ r ∈ G0 a, r < a) (g1 : ∀ a, a < sz → ∀ r ∈ G1 a, r < a) (n0 : ∀ a, a < sz → (G0 a).length ≤ a) (n1 : ∀ a, a < sz → (G1 a).length ≤ a) (hX : ∀ a, a < sz → Mex X G0 a) (hY : ∀ a, a < sz → Mex Y G1 a) : Law sz G0 G1 X Y := by
  have lX := mex_le g0 hX
  have lY := mex_le g1 hY
  refine ⟨by omega, by omega, g0, g1, fun a ha => Nat.le_trans (n0 a ha) (by omega), fun a ha => Nat.le_trans (n1 a ha) (by omega), hX, hY, fun a b ha hb => ?_, fun a ha => by have := lX a ha; omega, fun a ha => by have := lY a ha; omega⟩
  have h1 := lX a ha
  have h2 := lY b hb
  rcases hs with e | e
  · have := xor_in4 ⟨X a, by omega⟩ ⟨Y b, by omega⟩
    dsimp only at this
    omega
  · have := xor_in8 ⟨X a, by omega⟩ ⟨Y b, by omega⟩
    dsimp only at this
    omega
theorem law_all (V : Env0 w h₀ mg mb mean) (hS : h₀.IsList S items.toArray) (hI : IntsAre items ns) (hlen : ns.length ≤ 63) (z : LS h₀ L s.heap m cm) (msc : m (Str.ofString "script") = some (.ref S)) {Q : Flow → Shared → Prop}
    (hQ : ∀ h' tk m' cm', LS h₀ L h' m' cm' → Q (.ret (.bool true)) { s with heap := h', toks := tk }) :
    wpAny (model PR w) (AL L fa cd) (execs lawB (envL L fa cd)) Q NoE s := by
  have hS' : s.heap.IsList S items.toArray := hS.at fun o e => z.fr.keep _ _ e
  have il := hI.length
  show wpAny _ _ (execs [stAt lawB 0, stAt lawB 1, stAt lawB 2, stAt lawB 3, stAt lawB 4, stAt lawB 5, stAt lawB 6, stAt lawB 7] _) _ _ _
  obtain ⟨sz, hsz, esz⟩ : ∃ sz : Nat, (sz = 4 ∨ sz = 6) ∧ sz = if decide (((ns.length : Nat) : Int) < 9) = true then 4 else 6 := ⟨_, by by_cases q : decide (((ns.length : Nat) : Int) < 9) = true <;> simp [q], rfl⟩
  -- size
  refine wpAny_execs_cons (ex_asg (x := Str.ofString "size") (m := m) (P := IsI (sz : Int)) (ev_ifexp (c := decide (((ns.length : Nat) : Int) < 9)) (evT_cmp (ev_len (l := S) (n := ns.length) (evLen V.T V.KX z.fr) ((ev_loc z.fr.ns msc rfl rfl (by decide)).mono fun y h' k e => ⟨e, items, hS'.at fun o q => k _ o q, il⟩) (by omega) rfl) ev_int (mI _) cmp_lt rfl) (fun q => ?_) (fun q => ?_)) z.fr.ns ?_ rfl rfl rfl)
  · rw [if_pos q] at esz; subst esz; exact ev_int
  · rw [if_neg (by rw [q]; exact Bool.false_ne_true)] at esz; subst esz; exact ev_int
  clear esz
  rintro y h1 h2 tk2 ⟨tz, rfl⟩ k1 hm2 sb2
  dsimp only
  have z2 := z.loc (step_of k1 sb2) hm2
  have msz2 : (fun y => if y = Str.ofString "size" then some (Value.int (sz : Int) tz) else m y) (Str.ofString "size") = some (.int (sz : Int) tz) := rfl
  have msc2 : (fun y => if y = Str.ofString "size" then some (Value.int (sz : Int) tz) else m y) (Str.ofString "script") = some (.ref S) := msc
  generalize (fun y => if y = Str.ofString "size" then some (Value.int (sz : Int) tz) else m y) = m2 at *
  -- games
  refine wpAny_execs_cons (ex_asg (x := Str.ofString "games") (m := m2) ev_list0 z2.fr.ns ?_ rfl rfl rfl)
  rintro y h3 h4 tk4 ⟨gA, rfl, aG, lG⟩ k3 hm4 sb4
  dsimp only
  replace aG : Abv h2 gA := aG
  have z4 := z2.loc (step_of k3 sb4) hm4
  have og : NLt (L + 6) gA := let ⟨o, e⟩ := z2.liveC (c_told L); aG _ _ e
  have lG4 : LST h4 gA [] := lG.stepN sb4.extBut (ne_live (abv_none aG) z2.live)
  have l4 : LocG (fun y => if y = Str.ofString "games" then some (Value.ref gA) else m2 y) sz gA S := ⟨⟨tz, msz2⟩, rfl, msc2⟩
  generalize (fun y => if y = Str.ofString "games" then some (Value.ref gA) else m2 y) = m4 at *
  -- for side
  refine wpAny_execs_cons (for_side V hS hI hlen z4 l4 lG4 og (by omega) (by omega) ?_)
  intro h6 tk6 m6 cm6 gl WW GG z6 lG6 y6 l6
  dsimp only at y6 ⊢
  have y0 := y6 0 (by omega)
  have y1 := y6 1 (by omega)
  -- alone
  refine wpAny_execs_cons (ex_asg (x := Str.ofString "alone") (m := m6) (ev_list2 (P := IsA h6 sz (GG 0)) (R := IsA h6 sz (GG 1)) (ev_alone (j := 0) V z6 l6.games lG6 (by omega) rfl y0 (by omega)) (ev_alone (j := 1) V z6 l6.games lG6 (by omega) rfl y1 (by omega)) mA mA rfl) z6.fr.ns ?_ rfl rfl rfl)
  rintro y h7 h8 tk8 ⟨aA, u, v, rfl, aA6, lA7, ⟨x0, X, xs, rfl, a0, lx0, ix0, hX⟩, ⟨x1, Y, ys, rfl, a1, lx1, ix1, hY⟩⟩ k7 hm8 sb8
  dsimp only
  replace aA6 : Abv h6 aA := aA6
  have st8 : Step L h6 h8 := step_of k7 sb8
  have z8 := z6.loc st8 hm8
  have sL : Step L h7 h8 := sb8.extBut
  have lA8 : LST h8 aA _ := lA7.stepN sL (ne_live (abv_none aA6) z6.live)
  have lx08 := lx0.stepN sL (ne_live (abv_none a0) z6.live)
  have lx18 := lx1.stepN sL (ne_live (abv_none a1) z6.live)
  have y08 := y0.step st8 z4.live
  have y18 := y1.step st8 z4.live
  have lG8 := lG6.stepN st8 (Nat.ne_of_gt (by dsimp only [NLt] at og; omega))
  have lo8 : LocOK (fun y => if y = Str.ofString "alone" then some (Value.ref aA) else m6 y) sz gA aA := ⟨l6.size, l6.games, rfl⟩
  generalize (fun y => if y = Str.ofString "alone" then some (Value.ref aA) else m6 y) = m8 at *
  have P : Law sz (GG 0) (GG 1) X Y := law_of hsz y0.g y1.g y0.gl y1.gl hX hY
  -- worths
  refine wpAny_execs_cons (ex_asgC (x := Str.ofString "worths") (c := L + 1 + 1) ev_list0 (z8.cl.cell _ _ (c_worths L)) ?_ rfl rfl rfl rfl)
  rintro y h9 h10 tk10 ⟨wA, rfl, aW, lW⟩ k9 hc10 sb10
  dsimp only
  replace aW : Abv h8 wA := aW
  have ow : NLt (L + 6) wA := let ⟨o, e⟩ := z8.liveC (c_told L); aW _ _ e
  have f2 := frame_live z2
  have f4 := frame_live z4
  have f6 := frame_live z6
  have d8 : Dat (L + 6) wA h8 sz gA aA (gl 0) (gl 1) x0 x1 (WW 0) (WW 1) (GG 0) (GG 1) X Y :=
    ⟨ow, .of lG8 f2 (abv_none aG) aW, .of y08.l f4 y08.lk aW, .of y18.l f4 y18.lk aW, fun p hp => let ⟨vs, l, i⟩ := y08.w p hp; ⟨vs, .of l f4 (y08.wk p hp) aW, i⟩, fun p hp => let ⟨vs, l, i⟩ := y18.w p hp; ⟨vs, .of l f4 (y18.wk p hp) aW, i⟩,
      .of lA8 f6 (abv_none aA6) aW, ⟨xs, .of lx08 f6 (abv_none a0) aW, ix0⟩, ⟨ys, .of lx18 f6 (abv_none a1) aW, ix1⟩⟩
  have st10 : Step (L + 1 + 1) h8 h10 := step_of k9 sb10
  have z10 := z8.cel st10 (c_worths L) hc10
  have d10 := d8.step st10 (.inl ⟨by show L + 6 - 6 ≤ L + 1 + 1; omega, by show L + 1 + 1 ≤ L + 6; omega⟩)
  have lW10 : LST h10 wA [] := lW.stepN sb10.extBut (ne_live (abv_none aW) (z8.liveC (c_worths L)))
  have cw10 : (fun y => if y = Str.ofString "worths" then some (Value.ref wA) else cm6 y) (Str.ofString "worths") = some (.ref wA) := rfl
  generalize (fun y => if y = Str.ofString "worths" then some (Value.ref wA) else cm6 y) = cm10 at *
  -- lost
  refine wpAny_execs_cons (ex_asgC (x := Str.ofString "lost") (c := L + 1 + 1 + 1) ev_list0 (z10.cl.cell (Str.ofString "lost") _ rfl) ?_ rfl rfl rfl rfl)
  rintro y h11 h12 tk12 ⟨lA, rfl, aL, lL⟩ k11 hc12 sb12
  dsimp only
  replace aL : Abv h10 lA := aL
  have st12 : Step (L + 1 + 1 + 1) h10 h12 := step_of k11 sb12
  have z12 := z10.cel (x := Str.ofString "lost") st12 rfl hc12
  have d12 := d10.step st12 (.inl ⟨by show L + 6 - 6 ≤ L + 1 + 1 + 1; omega, by show L + 1 + 1 + 1 ≤ L + 6; omega⟩)
  have lL12 : LST h12 lA [] := lL.stepN sb12.extBut (ne_live (abv_none aL) (z10.liveC (x := Str.ofString "lost") rfl))
  have lW12 : LST h12 wA [] := lW10.stepN st12 (Nat.ne_of_gt (Nat.lt_of_le_of_lt (show L + 1 + 1 + 1 ≤ L + 6 by omega) ow))
  have wl : NLt wA lA := let ⟨c, e⟩ := lW10; aL _ _ e
  have cw12 : (fun y => if y = Str.ofString "lost" then some (Value.ref lA) else cm10 y) (Str.ofString "worths") = some (.ref wA) := cw10
  have cl12 : (fun y => if y = Str.ofString "lost" then some (Value.ref lA) else cm10 y) (Str.ofString "lost") = some (.ref lA) := rfl
  generalize (fun y => if y = Str.ofString "lost" then some (Value.ref lA) else cm10 y) = cm12 at *
  -- for a
  refine wpAny_execs_cons (for_a V P rfl z12 d12 lo8 cw12 cl12 lW12 lL12 (Nat.le_refl _) wl ?_)
  intro h13 tk13 m13 cm13 z13
  dsimp only
  refine wpAny_execs_cons (wpAny_Return_some (ev_bool (h := h13) _ _ _ (Ext.refl _) ?_))
  rintro y s' rfl k14
  obtain ⟨h14, tk14, rfl, e14⟩ := k14
  exact hQ h14 tk14 m13 cm13 (z13.ext e14)
end
end Mine
namespace Mine
theorem cells_up (L : Nat) : ∀ n c, (n, c) ∈ cellsL L → L < c := fun n c h => (cells_le L _ h).1
theorem cells_apart (L : Nat) : (cellsL L).Pairwise fun x y => x.2 ≠ y.2 := by
  have e : cellsL L = [(Str.ofString "told", L + 1 + 1 + 1 + 1 + 1 + 1), (Str.ofString "b", L + 1 + 1 + 1 + 1 + 1), (Str.ofString "a", L + 1 + 1 + 1 + 1), (Str.ofString "lost", L + 1 + 1 + 1), (Str.ofString "worths", L + 1 + 1), (Str.ofString "number", L + 1)] := by rfl
  rw [e]
  simp only [List.pairwise_cons, List.mem_cons, List.not_mem_nil, or_false, forall_eq_or_imp, forall_eq, false_implies, implies_true, List.Pairwise.nil, and_true]
  refine ⟨⟨?_, ?_, ?_, ?_, ?_⟩, ⟨?_, ?_, ?_, ?_⟩, ⟨?_, ?_, ?_⟩, ⟨?_, ?_⟩, ?_⟩ <;> exact Nat.ne_of_gt (by omega)
theorem law_join {w : World} {s₁ : Shared} {h₁ : Heap} {tk₁ : Nat} {fa : Addr} {cd : Value} {m cm : Str → Option Value} {mg mb : Str → Option Value} {mean : ExcName → Option Value} {S : Addr} {items : List Value} {ns : List Int} {cells : List (Addr × Obj)}
    {Q : Flow → Shared → Prop} {E : Value → Shared → Prop}
    (F : Fr s₁.heap s₁.heap.objs.size h₁ m) (N : News s₁.heap s₁.heap.objs.size h₁ cells) (X0 : CellsAre cm (cellsL s₁.heap.objs.size) cells)
    (T : Top hd.view_39 (looseW hd.view_39 lookL) mean mg mb s₁.heap) (K0 : Below callerA s₁.heap [] s₁.heap) (KX : (hd.heap_39 w.params).In s₁.heap)
    (hS : s₁.heap.IsList S items.toArray) (hI : IntsAre items ns) (hlen : ¬ (((63 : Nat) : Int) < (ns.length : Int))) (msc : m (Str.ofString "script") = some (.ref S))
    (hQ : ∀ h' tk m', Fr s₁.heap s₁.heap.objs.size h' m' → Q (.ret (.bool true)) { s₁ with heap := h', toks := tk }) :
    wpAny (model PR w) (AL s₁.heap.objs.size fa cd) (execs lawB (envL s₁.heap.objs.size fa cd)) Q E { s₁ with heap := h₁, toks := tk₁ } := by
  have C : Cl s₁.heap.objs.size (cellsL s₁.heap.objs.size) h₁ cm := Cl.of_news (own := []) N X0 (cells_apart _) (cells_up _)
  refine wpAny_mono (law_all (s := { s₁ with heap := h₁, toks := tk₁ }) (Q := Q) ⟨T, K0, KX⟩ hS hI (by omega) ⟨F, C⟩ msc ?_) (fun _ _ q => q) fun _ _ f => f.elim
  intro h' tk m' cm' z
  exact hQ h' tk m' z.fr
end Mine
set_option maxHeartbeats 8000000 in
theorem PySem.Challenge.cw_ik0170_01_holds : PySem.Challenge.rw_ik0170_01.Holds := by
  refine Mine.hd ?_
  w_strict (k_go0; (all_goals try k_fold)
            refine' Mine.law_join ?F ?N ?X0 ?T ?K0 ?KX ?hS ?hI ?hlen ?msc ?_
            (case F => assumption)
            (case N => assumption)
            (case X0 => assumption)
            (case T => assumption)
            (case K0 => assumption)
            (case KX => assumption)
            (case hS => assumption)
            (case hI => assumption)
            (case hlen => assumption)
            (case msc => rfl)
            intro h' tk m' F'
            k_unfold
            try dsimp only
            k_end; wrow_close)
